import PyProof.Rows.All
import Wide.All
import OpenK.AllK
import Wide.FinOn
import Lean
import PySem.Challenge.RW_wz0015_01
open PySem
open Array (getElem?_toList length_toList)
open Bool (and_eq_true false_eq_true or_eq_true)
open PySem.Heap (get?_none_of_le get?_push_of_some get?_push_size get?_update_other get?_update_self hide_ne lt_size of_hide size_push)
open Int (add_comm add_zero natCast_nonneg neg_neg ofNat_inj ofNat_le ofNat_lt ofNat_sub one_mul sub_add_cancel sub_zero toNat_natCast)
open List (all_eq_true append_assoc append_nil countP_cons countP_map count_cons drop_eq_getElem_cons drop_eq_nil_of_le drop_of_length_le ext_getElem? filter_cons filter_eq_self flatMap_append flatMap_cons foldl_append foldl_cons forIn_cons forIn_nil forall_mem_cons getD_eq_getElem?_getD getElem?_append_right getElem?_eq_getElem getElem?_eq_none getElem?_map getElem?_range getElem?_zip_eq_some getElem_mem length_append length_cons length_drop length_filter_le length_map length_nil length_range length_replicate length_set length_take length_zip length_zipWith lookup_cons map_append map_congr_left map_cons map_fst_zip map_map map_nil map_replicate map_take mem_append mem_append_left mem_append_right mem_cons mem_cons_of_mem mem_cons_self mem_filter mem_flatMap mem_iff_getElem mem_map mem_map_of_mem mem_of_getElem? mem_range mem_singleton nil_append nodup_append nodup_cons nodup_nil nodup_range not_mem_nil pairwise_map range' range_succ replicate replicate_succ reverse_cons sum_append sum_cons take_length take_of_length_le zipWith zipWith_cons_cons zip_cons_cons)
open Nat (add_assoc add_le_add add_le_add_left add_le_add_right add_right_comm le_add_left le_add_right le_antisymm le_of_ble_eq_true le_of_eq le_of_lt le_of_lt_succ le_of_not_lt le_of_succ_le le_refl le_succ le_succ_of_le le_trans lt_irrefl lt_of_le_of_lt lt_of_lt_of_le lt_of_not_le lt_or_ge lt_succ_of_le lt_succ_of_lt lt_succ_self lt_trans min_le_left min_le_right min_self mod_lt mul_le_mul_left mul_le_mul_right ne_of_gt ne_of_lt not_lt one_pos sub_le sub_lt sub_self succ_add succ_add_eq_add_succ succ_le_succ succ_pos zero_add zero_le zero_lt_succ)
set_option compiler.extract_closed false
set_option genSizeOf false
set_option genSizeOfSpec false
set_option genInjectivity false
set_option tactic.hygienic false
set_option hygiene false
set_option maxHeartbeats 1000000
set_option Elab.async false
set_option maxRecDepth 100000
set_option linter.unusedVariables false
section
open PySem PySem.Spec PySem.Calls PyProof.Rows PySem.W
namespace Mine
theorem Zb{α:Type}{o:Option α}(h:∀ x,o=some x->False):o=none:=match o,h with
 | none,_=>rfl
 | some x,h=>(h x rfl).elim
theorem nsE{α:Type}{x:α}{p:Prop}(h:none=some x):p:=nomatch h
theorem snE{α:Type}{x:α}{p:Prop}(h:some x=none):p:=nomatch h
theorem mnE{α:Type}{x:α}{p:Prop}(h:x ∈ []):p:=nomatch h
theorem ftE{p:Prop}(h:false=true):p:=nomatch h
theorem Um{α β:Type}{f:α->β}{l:List α}{i:Nat}(h:i < l.length):(l.map f)[i]?=some (f l[i]):=by rw[getElem?_map,getElem?_eq_getElem h];rfl
theorem K8{α β:Type}{f:α->β}{l:List α}{i:Nat}{d:α}(h:i < l.length):(l.map f)[i]?=some (f (l.getD i d)):=by rw[Um h,getD_eq_getElem?_getD,getElem?_eq_getElem h];rfl
theorem Py{α:Type}{its:Array α}{j:Nat}{v:α}(h:j < its.size)(q:its.toList[j]?=some v):its[j]=v:=by
 rw[getElem?_toList,Array.getElem?_eq_getElem h] at q;exact Option.some.inj q
theorem Jr{β:Type}{f:Nat->β}{n i:Nat}(h:i < n):((List.range n).map f)[i]?=some (f i):=by rw[getElem?_map,getElem?_range h];rfl
theorem Lf{α β:Type}{l:List α}{m:List β}(h:m.length=l.length):(l.zip m).length=l.length:=by rw[length_zip,h,min_self]
theorem Pg{α β:Type}{f:α->β}{l:List α}{i:Nat}(h:i < l.length):i < (l.map f).length:=by rw[length_map];exact h
theorem Ib{α β:Type}{f:α->β}{l:List α}{i:Nat}(h:l.length ≤ i):(l.map f).length ≤ i:=by rw[length_map];exact h
theorem K5{α:Type}{l:List α}:l[l.length]?=none:=getElem?_eq_none (le_refl _)
theorem Zt{α:Type}{l:List α}{n:Nat}(h:n=l.length):l[n]?=none:=getElem?_eq_none (le_of_eq h.symm)
theorem lenC{α:Type}{P:List α->Prop}{n:Nat}(k:∀ a r,r.length=n->P (a::r)):∀ l,l.length=n + 1->P l:=fun l h=>by
 cases l with
 | nil=>exact(nomatch h)
 | cons a r=>exact k a r (Nat.succ.inj h)
theorem Xb{α:Type}{P:List α->Prop}(k:P []):∀ l,l.length=0->P l:=fun _ h=>(List.eq_nil_of_length_eq_zero h).symm ▸ k
theorem Mh{i n:Nat}(h:i < n)(hs:n ≤ sizeLine): -(2 ^ 63) ≤ (i:Int) /\ (i:Int) < 2 ^ 63:=⟨Int.le_trans (by decide) (natCast_nonneg _),Int.lt_trans (ofNat_lt.mpr (lt_of_lt_of_le h hs)) (by decide)⟩
theorem Ho{i n:Nat}(h:i < n)(hs:n ≤ sizeLine): -(2 ^ 63) ≤ -1 - (i:Int) /\ -1 - (i:Int) < 2 ^ 63:=⟨Int.le_trans (by decide) (Int.sub_le_sub_left (ofNat_le.mpr (le_trans (le_of_lt h) hs)) (-1)),Int.lt_of_le_of_lt (Int.sub_le_self _ (natCast_nonneg _)) (by decide)⟩
theorem Te{n i:Nat}(h:i < n):n - 1 - i < n:=lt_of_le_of_lt (sub_le ..) (sub_lt (Nat.zero_lt_of_lt h) one_pos)
theorem V8{k n:Int}(h:0 ≤ k + n): -n ≤ k:=by
 have:=Int.sub_le_sub_right h n;rwa [Int.zero_sub,Int.add_sub_cancel] at this
theorem Mf{i n:Nat}(h:i < n): -1 - (i:Int) + n=((n - 1 - i:Nat):Int):=by
 rw[ofNat_sub (Nat.le_sub_one_of_lt h),ofNat_sub (Nat.one_le_of_lt h),add_comm,<- Int.add_sub_assoc];rfl
theorem Yc(a c m:Int):a - (c + m) + c=a - m:=by rw[add_comm c m,<- Int.sub_sub,sub_add_cancel]
theorem Th{a x y t:Nat}(h:a + (x + 1) + y ≤ t):a + 1 ≤ t:=le_trans (add_le_add_left (succ_le_succ (zero_le _)) _) (le_trans (le_add_right ..) h)
theorem Ut{n:Nat}(h:0 < n):(n:Int) - 1=((n - 1:Nat):Int):=(ofNat_sub h).symm
theorem N9{n:Nat}(h:0 < n):((-1:Int) + n).toNat=n - 1:=by rw[add_comm,show(n:Int) + -1=((n - 1:Nat):Int) from Ut h,toNat_natCast]
theorem K6{n:Nat}(h:0 < n):0 ≤ (-1:Int) + n /\ (-1:Int) + n ≤ n:=by
 rw[add_comm];exact⟨Int.sub_nonneg_of_le (ofNat_le.mpr h),Int.sub_le_self (n:Int) (by decide:(0:Int) ≤ 1)⟩
theorem Qd(a:Int)(i:Nat):a - ((i + 1:Nat):Int)=a - (i:Int) - 1:=Int.sub_sub a i 1 |>.symm
noncomputable abbrev ZM:=Addr->Option Obj
noncomputable def ZM.leC(Z Z':ZM):Prop:=∀ a o,Z a=some o->(∀ u,o.data ≠ .cell u)->Z' a=some o
inductive V where
 | none
 | bool (b:Bool)
 | int (i:Int)
 | str (x:Str)
 | tup (l:List V)
 | list (l:List V)
 | sdict (ks:List Str) (vs:List V)
 | idict (ks:List Int) (vs:List V)
 | rng (a b:Int)
 | slc (l u s:Option Int)
 | view (items:Bool) (d:V)
 | ref (a:Addr)
 | lit (v:Value)
 | raw (p:ZM->Value->Prop) (h:∀ Z Z' v,Z.leC Z'->p Z v->p Z' v)
noncomputable def ZDict{prog:Program}{w:World}{K:Type}[DecidableEq K](knd:KeyKind prog w K)(Z:ZM)(a:Addr)(kvs:List (K × Value)):Prop:=
 ∃ o es ep,Z a=some o /\ o.ExactDict /\ o.data=.dict es ep /\ KeysOf knd es /\ Pairs knd es.toList kvs /\ (kvs.map (·.1)).Nodup
mutual
noncomputable def VRel(prog:Program)(w:World)(Z:ZM):V->Value->Prop
 | .none,v=>v=.none
 | .bool b,v=>v=.bool b
 | .int i,v=>∃ t,v=.int i t
 | .str x,v=>∃ t,v=.str x t
 | .tup l,v=>∃ a its n,v=.ref a /\ Z a=some {cls:=.type "tuple",data:=.seq its n} /\ VsRel prog w Z l its.toList
 | .list l,v=>∃ a its n,v=.ref a /\ Z a=some {cls:=.type "list",data:=.seq its n} /\ VsRel prog w Z l its.toList
 | .sdict ks l,v=>∃ a vs,v=.ref a /\ 3 < a /\ ZDict (strKind prog w) Z a (ks.zip vs) /\ ks.length=vs.length /\ VsRel prog w Z l vs
 | .idict ks l,v=>∃ a vs,v=.ref a /\ 3 < a /\ ZDict (intKind prog w) Z a (ks.zip vs) /\ ks.length=vs.length /\ VsRel prog w Z l vs
 | .rng a b,v=>∃ r t u x,v=.ref r /\ Z r=some {cls:=.type "range",data:=.fields #[.int a t,.int b u,.int 1 x]}
 | .slc l u s,v=>∃ a lv uv sv,v=.ref a /\ Z a=some {cls:=.type "slice",data:=.fields #[lv,uv,sv]} /\ IsPart lv l /\ IsPart uv u /\ IsPart sv s
 | .view b d,v=>∃ a da,v=.ref a /\ Z a=some {cls:=.type (if b then "dict_items" else "dict_values"),data:=.fields #[.ref da]} /\ VRel prog w Z d (.ref da)
 | .ref a,v=>v=.ref a
 | .lit x,v=>v=x
 | .raw p _,v=>p Z v
noncomputable def VsRel(prog:Program)(w:World)(Z:ZM):List V->List Value->Prop
 | [],vs=>vs=[]
 | d::l,vs=>∃ v r,vs=v::r /\ VRel prog w Z d v /\ VsRel prog w Z l r
end
noncomputable def ZM.le(Z Z':ZM):Prop:=∀ a o,Z a=some o->Z' a=some o
theorem ZM.le.leC{Z Z':ZM}(h:Z.le Z'):Z.leC Z':=fun a o e _=>h a o e
theorem ZDict.mono{prog:Program}{w:World}{K:Type}[DecidableEq K]{knd:KeyKind prog w K}{Z Z':ZM}{a:Addr}{kvs:List (K × Value)}(hz:Z.le Z')(x:ZDict knd Z a kvs):ZDict knd Z' a kvs:=
 let ⟨o,es,ep,h,r⟩:=x;⟨o,es,ep,hz _ _ h,r⟩
section
variable{prog:Program}{w:World}
mutual
theorem VRel.mono{Z Z':ZM}(hz:Z.le Z'):∀ {d:V} {v:Value},VRel prog w Z d v->VRel prog w Z' d v
 | .none,_,h=>h
 | .bool _,_,h=>h
 | .int _,_,h=>h
 | .str _,_,h=>h
 | .tup _,_,h=>by obtain⟨a,its,n,e,z,r⟩:=h;exact⟨a,its,n,e,hz _ _ z,VsRel.mono hz r⟩
 | .list _,_,h=>by obtain⟨a,its,n,e,z,r⟩:=h;exact⟨a,its,n,e,hz _ _ z,VsRel.mono hz r⟩
 | .sdict _ _,_,h=>by obtain⟨a,vs,e,lo,z,l,r⟩:=h;exact⟨a,vs,e,lo,z.mono hz,l,VsRel.mono hz r⟩
 | .idict _ _,_,h=>by obtain⟨a,vs,e,lo,z,l,r⟩:=h;exact⟨a,vs,e,lo,z.mono hz,l,VsRel.mono hz r⟩
 | .rng _ _,_,h=>by obtain⟨r,t,u,x,e,z⟩:=h;exact⟨r,t,u,x,e,hz _ _ z⟩
 | .slc _ _ _,_,h=>by obtain⟨a,lv,uv,sv,e,z,q⟩:=h;exact⟨a,lv,uv,sv,e,hz _ _ z,q⟩
 | .view _ d,_,h=>by obtain⟨a,da,e,z,q⟩:=h;exact⟨a,da,e,hz _ _ z,VRel.mono hz q⟩
 | .ref _,_,h=>h
 | .lit _,_,h=>h
 | .raw _ k,_,h=>k _ _ _ hz.leC h
theorem VsRel.mono{Z Z':ZM}(hz:Z.le Z'):∀ {l:List V} {vs:List Value},VsRel prog w Z l vs->VsRel prog w Z' l vs
 | [],_,h=>h
 | _::_,_,h=>by obtain⟨v,r,e,h,q⟩:=h;exact⟨v,r,e,VRel.mono hz h,VsRel.mono hz q⟩
end
theorem VsRel.length{Z:ZM}:∀ {l:List V} {vs:List Value},VsRel prog w Z l vs->vs.length=l.length
 | [],_,h=>by cases h;rfl
 | _::_,_,⟨v,r,e,h,q⟩=>by subst e;simp[VsRel.length q]
theorem VsRel.get{Z:ZM}:∀ {l:List V} {vs:List Value},VsRel prog w Z l vs->∀ {i:Nat} {d:V},l[i]?=some d->∃ v,vs[i]?=some v /\ VRel prog w Z d v
 | [],_,_,i,d,e=>by contradiction
 | x::l,_,⟨v,r,e,h,q⟩,i,d,hd=>by
  subst e;cases i with
  | zero=>simp at hd;subst hd;exact⟨v,by rfl,h⟩
  | succ i=>simp at hd;obtain⟨u,hu,hr⟩:=VsRel.get q hd;exact⟨u,by exact hu,hr⟩
theorem VsRel.of_get{Z:ZM}:∀ {l:List V} {vs:List Value},vs.length=l.length->(∀ (i:Nat) d v,l[i]?=some d->vs[i]?=some v->VRel prog w Z d v)->VsRel prog w Z l vs
 | [],vs,h,_=>by cases vs with | nil=>rfl | cons=>contradiction
 | d::l,[],h,_=>by contradiction
 | d::l,v::vs,h,k=>⟨v,vs,rfl,k 0 d v (by rfl) (by rfl),VsRel.of_get (by simpa using h) fun i d' v' h1 h2=>k (i + 1) d' v' (by exact h1) (by exact h2)⟩
theorem VsRel.append{Z:ZM}:∀ {l l':List V} {vs vs':List Value},VsRel prog w Z l vs->VsRel prog w Z l' vs'->VsRel prog w Z (l++l') (vs++vs')
 | [],_,_,_,h,h'=>by cases h;exact h'
 | _::_,_,_,_,⟨v,r,e,h,q⟩,h'=>by subst e;exact⟨v,r++_,rfl,h,VsRel.append q h'⟩
end
inductive Cell where
 | list (l:List V)
 | sdict (ks:List Str) (vs:List V)
 | idict (ks:List Int) (vs:List V)
 | ns (l:List (Str × V))
 | raw (p:Obj->Prop)
structure St where
 loc:List (Str × Option V)
 cel:List (Str × Option V)
 cap:List (Str × V)
 mem:List (Addr × Cell)
structure Cx where
 prog:Program
 w:World
 A:Around
 env:Env
 own:List Addr
 base:Heap
 os:OsState
noncomputable def ORel(prog:Program)(w:World)(Z:ZM):Option V->Option Value->Prop
 | none,_=>True
 | some d,v=>∃ u,v=some u /\ VRel prog w Z d u
theorem ORel.mono{prog:Program}{w:World}{Z Z':ZM}(hz:Z.le Z'):∀ {d:Option V} {v:Option Value},ORel prog w Z d v->ORel prog w Z' d v
 | none,_,_=>trivial
 | some _,_,⟨u,e,h⟩=>⟨u,e,h.mono hz⟩
noncomputable def CellRel(prog:Program)(w:World)(Z:ZM)(h:Heap)(a:Addr):Cell->Prop
 | .list l=>∃ its,h.PlainList a its /\ VsRel prog w Z l its.toList
 | .sdict ks l=>∃ vs,h.DictOf (strKind prog w) a (ks.zip vs) /\ ks.length=vs.length /\ VsRel prog w Z l vs
 | .idict ks l=>∃ vs,h.DictOf (intKind prog w) a (ks.zip vs) /\ ks.length=vs.length /\ VsRel prog w Z l vs
 | .ns l=>∃ m,h.Ns1 a m /\ (∀ x d,(x,d) ∈ l->∃ v,m x=some v /\ VRel prog w Z d v) /\ ∀ x,x ∉ l.map (·.1)->m x=none
 | .raw p=>∃ o,h.get? a=some o /\ p o
theorem CellRel.mono{prog:Program}{w:World}{Z Z':ZM}{h h':Heap}{a:Addr}(hz:Z.le Z')(hk:∀ o,h.get? a=some o->h'.get? a=some o):∀ {c:Cell},CellRel prog w Z h a c->CellRel prog w Z' h' a c
 | .list _,h=>by obtain⟨its,p,r⟩:=h;exact⟨its,p.at hk,r.mono hz⟩
 | .sdict _ _,h=>by obtain⟨vs,⟨o,es,ep,e,x⟩,l,r⟩:=h;exact⟨vs,⟨o,es,ep,hk _ e,x⟩,l,r.mono hz⟩
 | .idict _ _,h=>by obtain⟨vs,⟨o,es,ep,e,x⟩,l,r⟩:=h;exact⟨vs,⟨o,es,ep,hk _ e,x⟩,l,r.mono hz⟩
 | .ns _,h=>by
  obtain⟨m,n,r,q'⟩:=h;exact⟨m,n.at hk,fun x d hx=>by obtain⟨v,hv,q⟩:=r x d hx;exact⟨v,hv,q.mono hz⟩,q'⟩
 | .raw _,h=>by obtain⟨o,e,r⟩:=h;exact⟨o,hk _ e,r⟩
noncomputable def keys(m:List (Addr × Cell)):List Addr:=m.map (·.1)
theorem Qg{a:Addr}{c:Cell}{m n:List (Addr × Cell)}:a ∈ keys (m++(a,c)::n):=mem_map_of_mem (f:=fun p:Addr × Cell=>p.1) (mem_append_right _ mem_cons_self)
theorem Y2(m n:List (Addr × Cell)):keys (m++n)=keys m++keys n:=map_append ..
theorem Wg{a:Addr}{c:Cell}:(keys [(a,c)]).Nodup:=nodup_cons.mpr ⟨not_mem_nil,nodup_nil⟩
noncomputable def Tb(X:Cx)(a:Addr):Prop:=∃ o vs,X.base.get? a=some o /\ o.cls=.none /\ o.data=.fields vs
noncomputable def Z0(X:Cx)(B:St):List Addr:=X.env.locals::(X.own++keys B.mem)
structure F8(X:Cx)(B:St):Prop where
 lnd:(B.loc.map (·.1)).Nodup
 lk:∀ p ∈ B.loc,X.env.kindOf p.1=some .local
 ck:∀ p ∈ B.cel,X.env.kindOf p.1=some .cell
 cnd:(B.cel.map (·.1)).Nodup
 cinj:∀ x y c,x ∈ B.cel.map (·.1)->y ∈ B.cel.map (·.1)->X.env.cells.lookup x=some c->X.env.cells.lookup y=some c->x=y
 pk:∀ p ∈ B.cap,(X.env.kindOf p.1=some .cell \/ X.env.kindOf p.1=some .free)
 dbg:∀ x ∈ B.loc.map (·.1)++(B.cel.map (·.1)++B.cap.map (·.1)),(x == ("__debug__" :Str))=false /\ (x == ("__classdict__" :Str))=false
 kind:X.env.scope.kind=.function
structure Rel(X:Cx)(B:St)(Z:ZM)(s:Shared):Prop where
 fr:F8 X B
 zin:∀ a o,Z a=some o->s.heap.get? a=some o
 st:∀ a o,X.base.get? a=some o->¬ Tb X a->Z a=some o
 ztab:∀ a,Tb X a->Z a=none
 old:OldK X.base s.heap
 os:s.os=X.os
 gens:AllBare s.gens
 ns:∃ m,s.heap.Ns X.env.locals m /\ ∀ x ov,(x,ov) ∈ B.loc->ORel X.prog X.w Z ov (m x)
 cells:∀ x ov,(x,ov) ∈ B.cel->∃ c uo,c ∈ X.own /\ X.env.cells.lookup x=some c /\ s.heap.IsCell c uo /\ ORel X.prog X.w Z ov uo
 cap:∀ x d,(x,d) ∈ B.cap->∃ c o v,X.env.cells.lookup x=some c /\ Z c=some o /\ o.data=.cell (some v) /\ VRel X.prog X.w Z d v
 ownc:∀ c ∈ X.own,∃ uo,s.heap.IsCell c uo
 mem:∀ p ∈ B.mem,CellRel X.prog X.w Z s.heap p.1 p.2
 nd:(Z0 X B).Nodup
 zfoot:∀ a ∈ Z0 X B,Z a=none
 bfoot:∀ a ∈ Z0 X B,X.base.get? a=none
 ex:∀ a ∈ Z0 X B,∃ o,s.heap.get? a=some o
 g3:∃ o,Z mainGlobals=some o
 low:∀ a ∈ keys B.mem,3 < a
structure Ext(X:Cx)(B:St)(Z:ZM)(s:Shared)(B':St)(Z':ZM)(s':Shared):Prop where
 rel:Rel X B' Z' s'
 le:Z.le Z'
 keep:∀ a o,s.heap.get? a=some o->a ∉ Z0 X B->¬ Tb X a->s'.heap.get? a=some o
 new:∀ a ∈ keys B'.mem,a ∈ keys B.mem \/ s.heap.get? a=none
 znew:∀ a o,Z' a=some o->Z a=some o \/ a ∈ keys B.mem \/ s.heap.get? a=none
theorem Ext.refl{X:Cx}{B:St}{Z:ZM}{s:Shared}(r:Rel X B Z s):Ext X B Z s B Z s:=
 ⟨r,fun _ _ h=>h,fun _ _ e _ _=>e,fun _ h=>.inl h,fun _ _ h=>.inl h⟩
theorem Ext.gone{X:Cx}{B B':St}{Z Z':ZM}{s s':Shared}(x:Ext X B Z s B' Z' s'){a:Addr}(h:s'.heap.get? a=none):a ∈ keys B.mem \/ s.heap.get? a=none:=by
 cases e:s.heap.get? a with
 | none=>exact .inr rfl
 | some o=>
  by_cases ht:Tb X a
  ·obtain⟨ob,_,hb,_⟩:=ht;obtain⟨o2,h2⟩:=x.rel.old.there _ _ hb;rw[h] at h2;exact nsE h2
  ·by_cases hf:a ∈ Z0 X B
   ·unfold Z0 at hf;have ex:=x.rel.ex;unfold Z0 at ex;rcases mem_cons.mp hf with rfl | hf
    ·obtain⟨o2,h2⟩:=ex _ mem_cons_self;rw[h] at h2;exact nsE h2
    ·rcases mem_append.mp hf with hf | hf
     ·obtain⟨o2,h2⟩:=ex _ (mem_cons_of_mem _ (mem_append_left _ hf));rw[h] at h2;exact nsE h2
     ·exact .inl hf
   ·rw[x.keep a o e hf ht] at h;exact snE h
theorem Ext.footNew{X:Cx}{B B':St}{Z Z':ZM}{s s':Shared}(x:Ext X B Z s B' Z' s'){a:Addr}(h:a ∈ Z0 X B'):a ∈ Z0 X B \/ s.heap.get? a=none:=by
 unfold Z0 at h ⊢;rcases mem_cons.mp h with rfl | h
 ·exact .inl (by exact mem_cons_self)
 ·rcases mem_append.mp h with h | h
  ·exact .inl (by simp[h])
  ·rcases x.new a h with h | h
   ·exact .inl (by simp[h])
   ·exact .inr h
theorem Ext.trans{X:Cx}{B B' B'':St}{Z Z' Z'':ZM}{s s' s'':Shared}(x:Ext X B Z s B' Z' s')(y:Ext X B' Z' s' B'' Z'' s''):Ext X B Z s B'' Z'' s'' where
 rel:=y.rel
 le:=fun a o h=>y.le a o (x.le a o h)
 keep:=fun a o e hn ht=>y.keep a o (x.keep a o e hn ht) (fun hf=>by
  rcases x.footNew hf with h | h
  ·exact hn h
  ·rw[h] at e;exact nsE e) ht
 new:=fun a hk=>by
  rcases y.new a hk with h | h
  ·exact x.new a h
  ·exact x.gone h
 znew:=fun a o hz=>by
  rcases y.znew a o hz with h | h | h
  ·exact x.znew a o h
  ·exact .inr (x.new a h)
  ·exact .inr (x.gone h)
noncomputable def Post{α β:Type}(X:Cx)(R:ZM->β->α->Prop)(B:St)(Z:ZM)(s:Shared)(P:β->St->Prop):α->Shared->Prop:=
 fun a s'=>∃ Z' B' b,Ext X B Z s B' Z' s' /\ R Z' b a /\ P b B'
noncomputable abbrev Zm:Value->Shared->Prop:=fun _ _=>False
noncomputable def J{α β:Type}(X:Cx)(R:ZM->β->α->Prop)(t:Sem α)(B:St)(P:β->St->Prop):Prop:=
 ∀ Z s,Rel X B Z s->wpAny (model X.prog X.w) X.A t (Post X R B Z s P) Zm s
section
variable{α β:Type}{X:Cx}{R:ZM->β->α->Prop}{t:Sem α}{B B':St}{P P':β->St->Prop}{Z Z':ZM}{s s':Shared}
theorem J.use{Q:α->Shared->Prop}(h:J X R t B P)(hr:Rel X B Z s)(k:∀ Z' s' B' b a,Ext X B Z s B' Z' s'->R Z' b a->P b B'->Q a s'):wpAny (model X.prog X.w) X.A t Q Zm s:=
 wpAny_mono (h Z s hr) (fun _ _ q=>by obtain⟨_,_,_,x,r,p⟩:=q;exact k _ _ _ _ _ x r p) fun _ _ h=>h
theorem Ve{Q:α->Shared->Prop}{s0:Shared}(h:wpAny (model X.prog X.w) X.A t (Post X R B Z s P) Zm s0)(k:∀ Z' s' B' b a,Ext X B Z s B' Z' s'->R Z' b a->P b B'->Q a s'):wpAny (model X.prog X.w) X.A t Q Zm s0:=
 wpAny_mono h (fun _ _ q=>by obtain⟨_,_,_,x,r,p⟩:=q;exact k _ _ _ _ _ x r p) fun _ _ h=>h
theorem Post.lift{a:α}(x:Ext X B Z s B' Z' s'){s'':Shared}(h:Post X R B' Z' s' P a s''):Post X R B Z s P a s'':=
 let ⟨Z1,B1,b,y,r⟩:=h;⟨Z1,B1,b,x.trans y,r⟩
theorem J.after(h:J X R t B' P)(x:Ext X B Z s B' Z' s'):wpAny (model X.prog X.w) X.A t (Post X R B Z s P) Zm s':=
 wpAny_mono (h Z' s' x.rel) (fun _ _ q=>q.lift x) fun _ _ h=>h
theorem J.mono(h:J X R t B P)(k:∀ b B,P b B->P' b B):J X R t B P':=fun Z s r=>
 wpAny_mono (h Z s r) (fun _ _ ⟨Z',B',b,x,q,p⟩=>⟨Z',B',b,x,q,k _ _ p⟩) fun _ _ h=>h
theorem Rel.toks{tk:Nat}(r:Rel X B Z s):Rel X B Z {s with toks:=tk}:=
 ⟨r.fr,r.zin,r.st,r.ztab,r.old,r.os,r.gens,r.ns,r.cells,r.cap,r.ownc,r.mem,r.nd,r.zfoot,r.bfoot,r.ex,r.g3,r.low⟩
theorem Ext.toks{tk:Nat}(x:Ext X B Z s B' Z' s'):Ext X B Z s B' Z' {s' with toks:=tk}:=
 ⟨x.rel.toks,x.le,x.keep,x.new,x.znew⟩
end
noncomputable def RV(X:Cx):ZM->V->Value->Prop:=VRel X.prog X.w
noncomputable def RVs(X:Cx):ZM->List V->List Value->Prop:=VsRel X.prog X.w
noncomputable def REq{α:Type}:ZM->α->α->Prop:=fun _ a b=>a=b
inductive Fl where
 | next | brk | cont
 | ret (d:V)
noncomputable def RFl(X:Cx)(Z:ZM):Fl->Flow->Prop
 | .next,f=>f=.next
 | .brk,f=>f=.brk
 | .cont,f=>f=.cont
 | .ret d,f=>∃ v,f=.ret v /\ VRel X.prog X.w Z d v
noncomputable def EV(X:Cx)(e:PySem.Expr)(B:St)(P:V->St->Prop):Prop:=J X (RV X) (eval e X.env) B P
noncomputable def ET(X:Cx)(e:PySem.Expr)(B:St)(P:Bool->St->Prop):Prop:=J X (REq (α:=Bool)) (isTrue e X.env (eval e X.env)) B P
noncomputable def EX(X:Cx)(b:List Stmt)(B:St)(P:Fl->St->Prop):Prop:=J X (RFl X) (execs b X.env) B P
noncomputable def ES(X:Cx)(b:Stmt)(B:St)(P:Fl->St->Prop):Prop:=J X (RFl X) (exec b X.env) B P
theorem Rel.sz3{X:Cx}{B:St}{Z:ZM}{s:Shared}(r:Rel X B Z s):3 < s.heap.objs.size:=let ⟨_,h⟩:=r.g3;lt_size (r.zin _ _ h)
theorem Rel.lt{X:Cx}{B:St}{Z:ZM}{s:Shared}(r:Rel X B Z s)(a:Addr)(h:a ∈ Z0 X B):a < s.heap.objs.size:=let ⟨_,ho⟩:=r.ex a h;lt_size ho
section
variable{X:Cx}{B B':St}{Z Z':ZM}{s s':Shared}
inductive Up(x:Str)(v:V):List (Str × Option V)->List (Str × Option V)->Prop
 | head {u l}:Up x v ((x,u)::l) ((x,some v)::l)
 | tail {p l l'}:Up x v l l'->Up x v (p::l) (p::l')
theorem Up.keys{x v l l'}(h:Up x v l l'):l'.map (·.1)=l.map (·.1):=by
 induction h with
 | head=>rfl
 | tail _ ih=>simp[ih]
theorem Up.has{x v l l'}(h:Up x v l l'):∃ u,(x,u) ∈ l:=by
 induction h with
 | head=>exact⟨_,.head _⟩
 | tail _ ih=>obtain⟨u,hu⟩:=ih;exact⟨u,.tail _ hu⟩
theorem Up.mem{x v l l'}(h:Up x v l l'):(l.map (·.1)).Nodup->∀ y ov,(y,ov) ∈ l'->(y=x /\ ov=some v) \/ ((y,ov) ∈ l /\ y ≠ x):=by
 induction h with
 | @head u l=>
  intro nd y ov hm;rcases mem_cons.mp hm with h | h
  ·cases h;exact .inl ⟨rfl,rfl⟩
  ·refine .inr ⟨.tail _ h,?_⟩;rintro rfl;simp only[map_cons,nodup_cons] at nd;exact nd.1 (mem_map_of_mem (f:=(·.1)) h)
 | @tail p l l' hu ih=>
  intro nd y ov hm;rcases mem_cons.mp hm with h | h
  ·subst h;refine .inr ⟨.head _,?_⟩;rintro rfl;obtain⟨u,hu⟩:=hu.has;simp only[map_cons,nodup_cons] at nd;exact nd.1 (mem_map_of_mem (f:=(·.1)) hu)
  ·simp only[map_cons,nodup_cons] at nd;rcases ih nd.2 y ov h with h | h
   ·exact .inl h
   ·exact .inr ⟨.tail _ h.1,h.2⟩
theorem Rel.nonempty(r:Rel X B Z s){p:Addr × Cell}(hp:p ∈ B.mem):p.1 ∈ Z0 X B:=by
 delta Z0 keys;simp;exact .inr (.inr ⟨p.2,hp⟩)
theorem Xr(r:Rel X B Z s){h':Heap}(hs:∀ b o,s.heap.get? b=some o->b ∉ Z0 X B->¬ Tb X b->h'.get? b=some o):∀ b o,Z b=some o->h'.get? b=some o:=fun b o e=>
 hs b o (r.zin b o e) (fun hf=>by rw[r.zfoot b hf] at e;exact nsE e) (fun ht=>by rw[r.ztab b ht] at e;exact nsE e)
theorem Rel.oldKeep(r:Rel X B Z s){h':Heap}(hs:∀ b o,s.heap.get? b=some o->b ∉ Z0 X B->h'.get? b=some o):OldK X.base h':=by
 have k:∀ b o o',X.base.get? b=some o->s.heap.get? b=some o'->h'.get? b=some o':=fun b o o' e e'=>
  hs b o' e' fun hf=>by rw[r.bfoot b hf] at e;exact nsE e
 refine⟨fun b o e=>?_,fun b o e=>let ⟨o',ho'⟩:=r.old.there b o e;⟨o',k b o o' e ho'⟩⟩;rcases r.old.old b o e with x | ⟨t,hc,vs,more,hv,x⟩ | ⟨rfl,hc,⟨o',es,n,ho',r'⟩,z⟩
 ·exact .inl (k _ _ _ e x)
 ·exact .inr (.inl ⟨t,hc,vs,more,hv,k _ _ _ e x⟩)
 ·refine .inr (.inr ⟨rfl,hc,⟨o',es,n,k _ _ _ e ho',r'⟩,fun key=>?_⟩);rw[OldK.staticOf_congr ((k _ _ _ e ho').trans ho'.symm) key];exact z key
theorem Ext.push(x:Ext X B Z s B' Z' s')(o:Obj):Ext X B Z s B' Z' {s' with heap:=s'.heap.push o}:=by
 have r:=x.rel;have kp:∀ b o',s'.heap.get? b=some o'->(s'.heap.push o).get? b=some o':=fun b o' e=>get?_push_of_some _ e;refine⟨⟨r.fr,fun a o' e=>kp _ _ (r.zin a o' e),r.st,r.ztab,r.old.step_keeps kp,r.os,r.gens,?_,?_,r.cap,fun c hc=>?_,?_,r.nd,r.zfoot,r.bfoot,?_,r.g3,r.low⟩,x.le,?_,x.new,x.znew⟩
 ·obtain⟨m,hn,hm⟩:=r.ns;exact⟨m,hn.push o,hm⟩
 ·intro y ov hy;obtain⟨c,uo,ho,hc,hv,hr⟩:=r.cells y ov hy;exact⟨c,uo,ho,hc,hv.keeps kp,hr⟩
 ·obtain⟨uo,hv⟩:=r.ownc c hc;exact⟨uo,hv.keeps kp⟩
 ·intro p hp;exact(r.mem p hp).mono (fun _ _ h=>h) (fun o' e=>kp _ _ e)
 ·intro a ha;obtain⟨o',ho'⟩:=r.ex a ha;exact⟨o',kp _ _ ho'⟩
 ·intro a o' e hn ht;exact kp _ _ (x.keep a o' e hn ht)
noncomputable def Zput(Z:ZM)(a:Addr)(o:Obj):ZM:=fun b=>if b=a then some o else Z b
theorem Zput.le{a:Addr}{o:Obj}(h:∀ o',Z a=some o'->o'=o):Z.le (Zput Z a o):=fun b o' e=>by
 delta Zput;split
 ·subst_vars;rw[h o' e]
 ·exact e
theorem Zput.self{a:Addr}{o:Obj}:Zput Z a o a=some o:=by exact if_pos rfl
theorem Ext.pushZ(x:Ext X B Z s B' Z' s')(o:Obj)(hf:o.isFreed=false:=by rfl):Ext X B Z s B' (Zput Z' s'.heap.objs.size o) {s' with heap:=s'.heap.push o} /\ Z'.le (Zput Z' s'.heap.objs.size o):=by
 have y:=x.push o;have r:=y.rel
 have hz:Z' s'.heap.objs.size=none:=by
  refine Zb fun o' h=>?_;exact absurd (lt_size (x.rel.zin _ _ h)) (lt_irrefl _)
 have le:Z'.le (Zput Z' s'.heap.objs.size o):=Zput.le fun o' e=>by rw[hz] at e;exact nsE e
 have nf:∀ a ∈ Z0 X B',a ≠ s'.heap.objs.size:=fun a ha e=>absurd (x.rel.lt a ha) (by rw[e];exact lt_irrefl _);refine⟨⟨⟨r.fr,?_,fun a o' e ht=>le _ _ (r.st a o' e ht),?_,r.old,r.os,r.gens,?_,?_,?_,r.ownc,?_,r.nd,?_,r.bfoot,r.ex,(let ⟨o3,h3⟩:=r.g3;⟨o3,le _ _ h3⟩),r.low⟩,fun a o' e=>le _ _ (x.le a o' e),y.keep,y.new,fun a o' e=>?_⟩,le⟩
 ·intro a o' e;unfold Zput at e;split at e
  ·subst_vars;cases e;exact get?_push_size _ hf
  ·exact r.zin _ _ e
 ·intro a ha
  delta Zput
  split
  ·subst_vars
   obtain⟨ob,_,hb,_⟩:=ha;exact absurd (lt_of_lt_of_le (lt_size (x.rel.old.there _ ob hb).choose_spec) (le_refl _)) (lt_irrefl _)
  ·exact r.ztab a ha
 ·obtain⟨m,hn,hm⟩:=r.ns;exact⟨m,hn,fun y ov h=>(hm y ov h).mono le⟩
 ·intro y ov hy;obtain⟨c,uo,ho,hc,hv,hr⟩:=r.cells y ov hy;exact⟨c,uo,ho,hc,hv,hr.mono le⟩
 ·intro y d hy;obtain⟨c,oc,v,hc,hz,hd,hr⟩:=r.cap y d hy;exact⟨c,oc,v,hc,le _ _ hz,hd,hr.mono le⟩
 ·intro p hp;exact(r.mem p hp).mono le (fun _ e=>e)
 ·intro a ha
  delta Zput
  rw[if_neg (nf a ha)];exact x.rel.zfoot a ha
 ·unfold Zput at e;split at e
  ·subst_vars
   exact .inr (x.gone (get?_none_of_le (le_refl _)))
  ·exact x.znew _ _ e
theorem Rel.setLoc(r:Rel X B Z s){x:Str}{d:V}{v:Value}{loc':List (Str × Option V)}(hu:Up x d B.loc loc')(hv:VRel X.prog X.w Z d v)
  {h':Heap} {m:Str->Option Value} (hm:∀ y ov,(y,ov) ∈ B.loc->ORel X.prog X.w Z ov (m y))
  (hn:h'.Ns X.env.locals (fun y=>if y=x then some v else m y)) (hs:Heap.SameBut X.env.locals s.heap h'):
  Ext X B Z s {B with loc:=loc'} Z {s with heap:=h',toks:=s.toks + 1}:=by
 have hL:X.env.locals ∈ Z0 X B:=mem_cons_self;have hf:Z0 X {B with loc:=loc'}=Z0 X B:=rfl;have ne:∀ a ∈ Z0 X B,a ∉ [X.env.locals]->a ≠ X.env.locals:=fun a _ h=>by simpa using h
 have nd:=r.nd;have k:∀ b o,s.heap.get? b=some o->b ∉ Z0 X B->h'.get? b=some o:=fun b o e hb=>(hs.2 b (fun h=>hb (h ▸ hL))).trans e;refine⟨⟨⟨by rw[hu.keys];exact r.fr.lnd,?_,r.fr.ck,r.fr.cnd,r.fr.cinj,r.fr.pk,by rw[hu.keys];exact r.fr.dbg,r.fr.kind⟩,fun a o e=>Xr r (fun b o e hb _=>k b o e hb) a o e,r.st,r.ztab,r.oldKeep k,r.os,r.gens,⟨_,hn,?_⟩,?_,r.cap,fun c hc=>?_,?_,r.nd,r.zfoot,r.bfoot,?_,r.g3,r.low⟩,fun _ _ e=>e,fun b o e hb _=>k b o e hb,fun _ h=>.inl h,fun _ _ h=>.inl h⟩
 ·intro p hp;have:p.1 ∈ B.loc.map (·.1):=by rw[<- hu.keys];exact mem_map_of_mem hp
  obtain⟨q,hq,e⟩:=mem_map.mp this;rw[<- e];exact r.fr.lk q hq
 ·intro y ov hy;rcases hu.mem r.fr.lnd y ov hy with⟨rfl,rfl⟩ | ⟨h,hne⟩
  ·exact⟨v,by exact if_pos rfl,hv⟩
  ·rw[if_neg hne];exact hm y ov h
 ·intro y ov hy;obtain⟨c,uo,ho,hc,hv,hr⟩:=r.cells y ov hy;refine⟨c,uo,ho,hc,hv.sameBut hs ?_,hr⟩;rintro rfl;unfold Z0 at nd;exact(nodup_cons.mp nd).1 (mem_append_left _ ho)
 ·obtain⟨uo,hv⟩:=r.ownc c hc;refine⟨uo,hv.sameBut hs ?_⟩;rintro rfl;unfold Z0 at nd;exact(nodup_cons.mp nd).1 (mem_append_left _ hc)
 ·intro p hp;refine(r.mem p hp).mono (fun _ _ e=>e) fun o e=>(hs.2 _ ?_).trans e;intro h;unfold Z0 keys at nd;exact(nodup_cons.mp nd).1 (mem_append_right _ (mem_map.mpr ⟨p,hp,h⟩))
 ·intro a ha
  by_cases h:a=X.env.locals
  ·subst h;obtain⟨o,_,_,ho,_⟩:=hn;exact⟨o,ho⟩
  ·obtain⟨o,ho⟩:=r.ex a ha;exact⟨o,(hs.2 a h).trans ho⟩
theorem Rel.setCel(r:Rel X B Z s){x:Str}{d:V}{v:Value}{cel':List (Str × Option V)}{c:Addr}(hu:Up x d B.cel cel')(hv:VRel X.prog X.w Z d v)
  (hcm:c ∈ X.own) (hc:X.env.cells.lookup x=some c) {h':Heap} (hn:h'.IsCell c (some v)) (hs:Heap.SameBut c s.heap h'):
  Ext X B Z s {B with cel:=cel'} Z {s with heap:=h'}:=by
 have hL:c ∈ Z0 X B:=mem_cons_of_mem _ (mem_append_left _ hcm);have nd:=r.nd
 have hcL:X.env.locals ≠ c:=fun e=>by
  delta Z0 at nd
  exact(nodup_cons.mp nd).1 (e ▸ mem_append_left _ hcm)
 have k:∀ b o,s.heap.get? b=some o->b ∉ Z0 X B->h'.get? b=some o:=fun b o e hb=>(hs.2 b (fun h=>hb (h ▸ hL))).trans e;refine⟨⟨⟨r.fr.lnd,r.fr.lk,?_,by rw[hu.keys];exact r.fr.cnd,by rw[hu.keys];exact r.fr.cinj,r.fr.pk,by rw[hu.keys];exact r.fr.dbg,r.fr.kind⟩,fun a o e=>Xr r (fun b o e hb _=>k b o e hb) a o e,r.st,r.ztab,r.oldKeep k,r.os,r.gens,?_,?_,r.cap,fun c' hc'=>?_,?_,r.nd,r.zfoot,r.bfoot,?_,r.g3,r.low⟩,fun _ _ e=>e,fun b o e hb _=>k b o e hb,fun _ h=>.inl h,fun _ _ h=>.inl h⟩
 ·intro p hp;have:p.1 ∈ B.cel.map (·.1):=by rw[<- hu.keys];exact mem_map_of_mem hp
  obtain⟨q,hq,e⟩:=mem_map.mp this;rw[<- e];exact r.fr.ck q hq
 ·obtain⟨m,hn',hm⟩:=r.ns;exact⟨m,hn'.sameBut hs hcL,hm⟩
 ·intro y ov hy;rcases hu.mem r.fr.cnd y ov hy with⟨rfl,rfl⟩ | ⟨h,hne⟩
  ·exact⟨c,some v,hcm,hc,hn,⟨v,rfl,hv⟩⟩
  ·obtain⟨c',uo,ho',hc',hv',hr⟩:=r.cells y ov h;refine⟨c',uo,ho',hc',hv'.sameBut hs ?_,hr⟩;rintro rfl;obtain⟨u,hx⟩:=hu.has;exact hne (r.fr.cinj _ _ _ (mem_map_of_mem (f:=(·.1)) h) (mem_map_of_mem (f:=(·.1)) hx) hc' hc)
 ·by_cases e:c'=c
  ·subst e;exact⟨_,hn⟩
  ·obtain⟨uo,hv⟩:=r.ownc c' hc';exact⟨uo,hv.sameBut hs e⟩
 ·intro p hp;refine(r.mem p hp).mono (fun _ _ e=>e) fun o e=>(hs.2 _ ?_).trans e;intro h;unfold Z0 keys at nd;have:=(nodup_append.mp (nodup_cons.mp nd).2).2.2;exact this c hcm p.1 (mem_map_of_mem hp) h.symm
 ·intro a ha
  by_cases h:a=c
  ·subst h;obtain⟨o,ho,_⟩:=hn;exact⟨o,ho⟩
  ·obtain⟨o,ho⟩:=r.ex a ha;exact⟨o,(hs.2 a h).trans ho⟩
end
theorem Zu{prog w Z i t}:VRel prog w Z (.int i) (.int i t):=⟨t,rfl⟩
theorem Xi{prog w Z x t}:VRel prog w Z (.str x) (.str x t):=⟨t,rfl⟩
theorem Zg{prog w Z b}:VRel prog w Z (.bool b) (.bool b):=rfl
theorem Xd{prog w Z}:VRel prog w Z .none .none:=rfl
theorem Zz{X Z}:RFl X Z .next .next:=rfl
theorem Od{X Z}:RFl X Z .brk .brk:=rfl
theorem Qb{X Z}:RFl X Z .cont .cont:=rfl
theorem Rl{X Z d v}(h:VRel X.prog X.w Z d v):RFl X Z (.ret d) (.ret v):=⟨v,rfl,h⟩
section
variable{X:Cx}{B B':St}{Z Z':ZM}{s s':Shared}
theorem here{α β:Type}{R:ZM->β->α->Prop}{P:β->St->Prop}{b:β}{a:α}(x:Ext X B Z s B' Z' s')(hr:R Z' b a)(h:P b B'):Post X R B Z s P a s':=⟨Z',B',b,x,hr,h⟩
section
variable{P:V->St->Prop}
theorem EV.int{i k pos}(h:P (.int i) B):EV X (.Constant (.int i) k pos) B P:=fun _ _ r=>wpAny_Constant_int (here (Ext.refl r).toks Zu h)
theorem EV.str{x k pos}(h:P (.str x) B):EV X (.Constant (.str x) k pos) B P:=fun _ _ r=>wpAny_Constant_str (here (Ext.refl r).toks Xi h)
theorem EV.bool{b k pos}(h:P (.bool b) B):EV X (.Constant (.bool b) k pos) B P:=fun _ _ r=>wpAny_Constant_bool (here (Ext.refl r) Zg h)
theorem EV.loc{x pos d}(hm:(x,some d) ∈ B.loc)(h:P d B):EV X (.Name x pos) B P:=fun Z s r=>by
 obtain⟨m,hn,hv⟩:=r.ns;obtain⟨v,hx,hr⟩:=hv _ _ hm;exact wpAny_Name (wpAny_loadName_local r.fr.kind (r.fr.lk _ hm) hn hx (here (b:=d) (Ext.refl r) hr h)) (r.fr.dbg x (mem_append_left _ (mem_map_of_mem (f:=(·.1)) hm))).1
theorem EV.cel{x pos d}(hm:(x,some d) ∈ B.cel)(h:P d B):EV X (.Name x pos) B P:=fun Z s r=>by
 obtain⟨c,uo,_,hc,hv,u,rfl,hr⟩:=r.cells _ _ hm;refine wpAny_Name ?_ (r.fr.dbg x (mem_append_right _ (mem_append_left _ (mem_map_of_mem (f:=(·.1)) hm)))).1;exact wpAny_loadName_cell r.fr.kind (r.fr.ck _ hm) hc hv (here (b:=d) (Ext.refl r) hr h)
theorem EV.cap{x pos d}(hm:(x,d) ∈ B.cap)(h:P d B):EV X (.Name x pos) B P:=fun Z s r=>by
 obtain⟨c,o,u,hc,hz,hd,hr⟩:=r.cap _ _ hm;have hv:s.heap.IsCell c (some u):=⟨o,r.zin _ _ hz,hd⟩
 have db:=r.fr.dbg x (mem_append_right _ (mem_append_right _ (mem_map_of_mem (f:=(·.1)) hm)));refine wpAny_Name ?_ db.1;rcases r.fr.pk _ hm with hk | hk
 ·exact wpAny_loadName_cell r.fr.kind hk hc hv (here (b:=d) (Ext.refl r) hr h)
 ·exact wpAny_loadName_free r.fr.kind hk hc hv (here (b:=d) (Ext.refl r) hr h) db.2
theorem Rel.baseNs(r:Rel X B Z s){a:Addr}{m:Str->Option Value}(h:X.base.Ns a m):s.heap.Ns a m:=by
 obtain⟨o,es,ep,ho,hd,q⟩:=h;refine⟨o,es,ep,r.zin _ _ (r.st _ _ ho ?_),hd,q⟩;rintro⟨o',vs,ho',_,hd'⟩;rw[ho] at ho';cases ho';rw[hd] at hd';exact(nomatch hd')
theorem Rel.nolim(r:Rel X B Z s)(h:X.base.NoLimit):s.heap.NoLimit:=by
 obtain⟨mc,hn,e⟩:=h;exact⟨mc,r.baseNs hn,e⟩
end
noncomputable def OP2(X:Cx)(f:Value->Value->Sem Value)(d1 d2:V)(B:St)(P:V->St->Prop):Prop:=
 ∀ Z s v1 v2,Rel X B Z s->VRel X.prog X.w Z d1 v1->VRel X.prog X.w Z d2 v2->wpAny (model X.prog X.w) X.A (f v1 v2) (Post X (RV X) B Z s P) Zm s
noncomputable def OP1{α β:Type}(X:Cx)(R:ZM->β->α->Prop)(f:Value->Sem α)(d1:V)(B:St)(P:β->St->Prop):Prop:=
 ∀ Z s v1,Rel X B Z s->VRel X.prog X.w Z d1 v1->wpAny (model X.prog X.w) X.A (f v1) (Post X R B Z s P) Zm s
noncomputable abbrev BIN(X:Cx)(op:Operator):=OP2 X (binaryOp op)
noncomputable abbrev INP(X:Cx)(op:Operator):=OP2 X (inplaceOp op)
noncomputable abbrev CMP(X:Cx)(op:CmpOp):=OP2 X (compareOp op)
noncomputable abbrev TRU(X:Cx):=OP1 X (REq (α:=Bool)) truthy
noncomputable abbrev UNA(X:Cx)(op:UnaryOp):=OP1 X (RV X) (unaryOp op)
noncomputable abbrev pBi2(X:Cx)(op:Operator)(P:V->St->Prop)(d1 d2:V)(B:St):Prop:=BIN X op d1 d2 B P
noncomputable abbrev pBi(X:Cx)(r:PySem.Expr)(op:Operator)(P:V->St->Prop)(d:V)(B:St):Prop:=EV X r B (pBi2 X op P d)
noncomputable abbrev pCm2(X:Cx)(op:CmpOp)(P:V->St->Prop)(d1 d2:V)(B:St):Prop:=CMP X op d1 d2 B P
noncomputable abbrev pCm(X:Cx)(r:PySem.Expr)(op:CmpOp)(P:V->St->Prop)(d:V)(B:St):Prop:=EV X r B (pCm2 X op P d)
noncomputable abbrev pUn(X:Cx)(op:UnaryOp)(P:V->St->Prop)(d:V)(B:St):Prop:=UNA X op d B P
noncomputable abbrev pTr(X:Cx)(P:Bool->St->Prop)(d:V)(B:St):Prop:=TRU X d B P
noncomputable abbrev pNo(P:Bool->St->Prop)(b:Bool)(B:St):Prop:=P (!b) B
noncomputable abbrev pRt(P:Fl->St->Prop)(d:V)(B:St):Prop:=P (.ret d) B
section
variable{P:V->St->Prop}
theorem EV.bin{l op r pos}(h:EV X l B (pBi X r op P)):EV X (.BinOp l op r pos) B P:=fun Z s R=>
 wpAny_BinOp (J.use h R fun Z1 s1 B1 d1 v1 x1 r1 h1=>J.use h1 x1.rel fun Z2 s2 B2 d2 v2 x2 r2 h2=>
  wpAny_mono (h2 Z2 s2 v1 v2 x2.rel (r1.mono x2.le) r2) (fun _ _ q=>q.lift (x1.trans x2)) fun _ _ h=>h)
theorem EV.cmp{l op r pos}(h:EV X l B (pCm X r op P))(hm:behindInMarks op r=false:=by with_unfolding_all rfl):EV X (.Compare l [op] [r] pos) B P:=fun Z s R=>
 wpAny_Compare1 (J.use h R fun Z1 s1 B1 d1 v1 x1 r1 h1=>J.use h1 x1.rel fun Z2 s2 B2 d2 v2 x2 r2 h2=>
  wpAny_mono (h2 Z2 s2 v1 v2 x2.rel (r1.mono x2.le) r2) (fun _ _ q=>q.lift (x1.trans x2)) fun _ _ h=>h) hm
theorem EV.una{op x pos}(h:EV X x B (pUn X op P)):EV X (.UnaryOp op x pos) B P:=fun Z s R=>
 wpAny_UnaryOp (J.use h R fun Z1 s1 B1 d1 v1 x1 r1 h1=>wpAny_mono (h1 Z1 s1 v1 x1.rel r1) (fun _ _ q=>q.lift x1) fun _ _ h=>h)
theorem EV.ife{t b o pos}(h:ET X t B fun c B1=>if c then EV X b B1 P else EV X o B1 P):EV X (.IfExp t b o pos) B P:=fun Z s R=>
 wpAny_IfExp (J.use h R fun Z1 s1 B1 c c' x1 r1 h1=>by
  cases r1;cases c with
  | true=>exact J.after h1 x1
  | false=>exact J.after h1 x1)
theorem EV.and{a b pos}(h:EV X a B fun d B1=>TRU X d B1 fun t B2=>if t then EV X b B2 P else ∃ _:B2=B1,P d B1):EV X (.BoolOp .And [a,b] pos) B P:=fun Z s R=>
 wpAny_And2 (J.use h R fun Z1 s1 B1 d v x1 r1 h1=>wpAny_mono (h1 Z1 s1 v x1.rel r1) (fun t s2 q=>by
  obtain⟨Z2,B2,t',x2,rfl,h2⟩:=q;cases t' with
  | true=>exact J.after h2 (x1.trans x2)
  | false=>obtain⟨rfl,hp⟩:=h2;exact here (b:=d) (x1.trans x2) (r1.mono x2.le) hp) fun _ _ h=>h)
theorem BIN.add{a b}(h:P (.int (a + b)) B):BIN X .Add (.int a) (.int b) B P:=fun Z s v1 v2 r ⟨t,e1⟩ ⟨u,e2⟩=>by
 subst e1 e2;exact PyProof.Rows.add_int (here (Ext.refl r).toks Zu h)
theorem BIN.sub{a b}(h:P (.int (a - b)) B):BIN X .Sub (.int a) (.int b) B P:=fun Z s v1 v2 r ⟨t,e1⟩ ⟨u,e2⟩=>by
 subst e1 e2;exact PyProof.Rows.sub_int (here (Ext.refl r).toks Zu h)
theorem BIN.mul{a b}(h:P (.int (a * b)) B)(ha: -(2 ^ 64) < a /\ a < 2 ^ 64):BIN X .Mult (.int a) (.int b) B P:=fun Z s v1 v2 r ⟨t,e1⟩ ⟨u,e2⟩=>by
 subst e1 e2;exact PyProof.Rows.mul_int (here (Ext.refl r).toks Zu h) (IntMulOk.of_left (intBits_le_64 ha.1 ha.2))
theorem BIN.div{a b}(h:P (.int (a.fdiv b)) B)(hb:0 < b /\ b < 1073741824):BIN X .FloorDiv (.int a) (.int b) B P:=fun Z s v1 v2 r ⟨t,e1⟩ ⟨u,e2⟩=>by
 subst e1 e2;exact PyProof.Rows.floordiv_int (Int.ne_of_gt hb.1) (here (Ext.refl r).toks Zu h) (.inl (PyProof.noPylong_small (ofNat_lt.mp ((Int.natAbs_of_nonneg (Int.le_of_lt hb.1)).symm ▸ hb.2))))
theorem BIN.mod{a b}(h:P (.int (a.fmod b)) B)(hb:b ≠ 0):BIN X .Mod (.int a) (.int b) B P:=fun Z s v1 v2 r ⟨t,e1⟩ ⟨u,e2⟩=>by
 subst e1 e2;exact PyProof.Rows.mod_int' hb (here (Ext.refl r).toks Zu h)
theorem BIN.pow{a b}(h:P (.int (a ^ b.toNat)) B)(hb:0 ≤ b /\ b ≤ 1000)(ha: -(2 ^ 64) < a /\ a < 2 ^ 64):BIN X .Pow (.int a) (.int b) B P:=fun Z s v1 v2 r ⟨t,e1⟩ ⟨u,e2⟩=>by
 subst e1 e2;refine PyProof.Rows.pow_int hb.1 ?_ (here (Ext.refl r).toks Zu h);have h1:=intBits_le_64 ha.1 ha.2
 calc (Builtin.Int.intBits a:Int) * b ≤ 64 * 1000:=Int.mul_le_mul (by exact(Int.le_trans (ofNat_le.mpr h1) (by decide))) hb.2 hb.1 (by exact natCast_nonneg _)
  _ ≤ 2 ^ 27:=by decide
theorem BIN.adds{a b:Str}(h:P (.str (a++b)) B)(hz:a.length + b.length ≤ sizeLine):BIN X .Add (.str a) (.str b) B P:=fun Z s v1 v2 r ⟨t,e1⟩ ⟨u,e2⟩=>by
 subst e1 e2;exact PyProof.Rows.add_str (fun t' tk=>here (Ext.refl r).toks Xi h) hz
theorem CMP.eqi{a b:Int}(h:P (.bool (a == b)) B):CMP X .Eq (.int a) (.int b) B P:=fun Z s v1 v2 r ⟨t,e1⟩ ⟨u,e2⟩=>by
 subst e1 e2;exact PyProof.Rows.eq_int (here (Ext.refl r) Zg h)
theorem CMP.nei{a b:Int}(h:P (.bool (a != b)) B):CMP X .NotEq (.int a) (.int b) B P:=fun Z s v1 v2 r ⟨t,e1⟩ ⟨u,e2⟩=>by
 subst e1 e2;exact PyProof.Rows.ne_int (here (Ext.refl r) Zg h)
theorem CMP.lti{a b:Int}(h:P (.bool (decide (a < b))) B):CMP X .Lt (.int a) (.int b) B P:=fun Z s v1 v2 r ⟨t,e1⟩ ⟨u,e2⟩=>by
 subst e1 e2;exact PyProof.Rows.lt_int (here (Ext.refl r) Zg h)
theorem CMP.gti{a b:Int}(h:P (.bool (decide (b < a))) B):CMP X .Gt (.int a) (.int b) B P:=fun Z s v1 v2 r ⟨t,e1⟩ ⟨u,e2⟩=>by
 subst e1 e2;exact PyProof.Rows.gt_int (here (Ext.refl r) Zg h)
theorem CMP.gei{a b:Int}(h:P (.bool (decide (b ≤ a))) B):CMP X .GtE (.int a) (.int b) B P:=fun Z s v1 v2 r ⟨t,e1⟩ ⟨u,e2⟩=>by
 subst e1 e2;exact PyProof.Rows.ge_int (here (Ext.refl r) Zg h)
theorem CMP.eqs{a b:Str}(h:P (.bool (a == b)) B):CMP X .Eq (.str a) (.str b) B P:=fun Z s v1 v2 r ⟨t,e1⟩ ⟨u,e2⟩=>by
 subst e1 e2;exact PyProof.Rows.eq_str (here (Ext.refl r) Zg h)
theorem CMP.nes{a b:Str}(h:P (.bool (a != b)) B):CMP X .NotEq (.str a) (.str b) B P:=fun Z s v1 v2 r ⟨t,e1⟩ ⟨u,e2⟩=>by
 subst e1 e2;exact PyProof.Rows.ne_str (here (Ext.refl r) Zg h)
theorem UNA.neg{a:Int}(h:P (.int (-a)) B):UNA X .USub (.int a) B P:=fun Z s v1 r hh0=>by
 obtain⟨t,e1⟩:=hh0;subst e1;exact PyProof.Rows.neg_int (here (Ext.refl r).toks Zu h)
end
section
variable{P:Bool->St->Prop}
theorem TRU.bool{b}(h:P b B):TRU X (.bool b) B P:=fun Z s v1 r e=>by
 cases e;exact wpAny_truthy_bool (here (b:=b) (Ext.refl r) rfl h)
theorem ET.val{e}(h:EV X e B (pTr X P))(he:∀ env,isTrue e env (eval e env)=(do let v <- eval e env;standAt e.pos;holding [v] (truthy v)):=by intro _;rfl):ET X e B P:=fun Z s R=>
 wpAny_isTrue_value (J.use h R fun Z1 s1 B1 d1 v1 x1 r1 h1=>wpAny_mono (h1 Z1 s1 v1 x1.rel r1) (fun _ _ q=>q.lift x1) fun _ _ h=>h) (he _)
theorem ET.cmp{l op r pos}(h:EV X l B (pCm X r op (pTr X P)))(hm:behindInMarks op r=false:=by with_unfolding_all rfl):ET X (.Compare l [op] [r] pos) B P:=fun Z s R=>
 wpAny_isTrue_Compare1 (J.use h R fun Z1 s1 B1 d1 v1 x1 r1 h1=>J.use h1 x1.rel fun Z2 s2 B2 d2 v2 x2 r2 h2=>
  wpAny_mono (h2 Z2 s2 v1 v2 x2.rel (r1.mono x2.le) r2) (fun v s3 q=>by
   obtain⟨Z3,B3,d3,x3,r3,h3⟩:=q
   exact wpAny_mono (h3 Z3 s3 v x3.rel r3) (fun _ _ q=>q.lift ((x1.trans x2).trans x3)) fun _ _ h=>h) fun _ _ h=>h) hm
theorem ET.not{x pos}(h:ET X x B (pNo P)):ET X (.UnaryOp .Not x pos) B P:=fun Z s R=>
 wpAny_isTrue_Not (J.use h R fun Z1 s1 B1 c c' x1 r1 h1=>by cases r1;exact here (b:=!c) x1 rfl h1)
end
section
variable{P:Fl->St->Prop}
theorem EX.nil(h:P .next B):EX X [] B P:=fun Z s r=>wpAny_execs_nil (here (Ext.refl r) Zz h)
theorem EX.cons{st rest}(h:ES X st B fun f B1=>match f with | .next=>EX X rest B1 P | f=>P f B1):EX X (st::rest) B P:=fun Z s r=>
 wpAny_execs_cons (J.use h r fun Z1 s1 B1 f f' x1 r1 h1=>by
  cases f with
  | next=>cases r1;exact J.after h1 x1
  | brk=>cases r1;exact here x1 Od h1
  | cont=>cases r1;exact here x1 Qb h1
  | ret d=>obtain⟨v,rfl,hr⟩:=r1;exact here x1 (Rl hr) h1)
noncomputable def KT(X:Cx)(rest:List Stmt)(P:Fl->St->Prop):Fl->St->Prop:=fun f B=>match f with | .next=>EX X rest B P | f=>P f B
theorem EX.consK{st:Stmt}{rest:List Stmt}(h:ES X st B (KT X rest P)):EX X (st::rest) B P:=EX.cons h
theorem KT.next{rest:List Stmt}(h:EX X rest B P):KT X rest P .next B:=h
theorem KT.brk{rest:List Stmt}(h:P .brk B):KT X rest P .brk B:=h
theorem KT.cont{rest:List Stmt}(h:P .cont B):KT X rest P .cont B:=h
theorem KT.ret{rest:List Stmt}{d:V}(h:P (.ret d) B):KT X rest P (.ret d) B:=h
structure KontL(I:St->Prop)(Q K:Fl->St->Prop):Prop where
 next:∀ {B},I B->K .next B
 cont:∀ {B},I B->K .cont B
 brk:∀ {B},Q .next B->K .brk B
 ret:∀ {d B},Q (.ret d) B->K (.ret d) B
noncomputable def EXK(X:Cx)(b:List Stmt)(B:St)(I:St->Prop)(Q:Fl->St->Prop):Prop:=∀ K,KontL I Q K->EX X b B K
theorem EXK.use{b:List Stmt}{I:St->Prop}{Q:Fl->St->Prop}(h:EXK X b B I Q):EX X b B fun f B4=>match f with
  | .next | .cont=>I B4
  | .brk=>Q .next B4
  | .ret v=>Q (.ret v) B4:=h _ ⟨id,id,id,id⟩
theorem ES.ret{e pos}(h:EV X e B (pRt P)):ES X (.Return (some e) pos) B P:=fun Z s r=>
 wpAny_Return_some (J.use h r fun Z1 s1 B1 d v x1 r1 h1=>here x1 (Rl r1) h1)
theorem ES.ite{t b o pos}(h:ET X t B fun c B1=>if c then EX X b B1 P else EX X o B1 P):ES X (.If t b o pos) B P:=fun Z s r=>
 wpAny_If (J.use h r fun Z1 s1 B1 c c' x1 r1 h1=>by
  cases r1;cases c with
  | true=>exact J.after h1 x1
  | false=>exact J.after h1 x1)
theorem ES.brk{pos}(h:P .brk B):ES X (.Break pos) B P:=fun Z s r=>wpAny_Break (here (Ext.refl r) Od h)
theorem ES.cont{pos}(h:P .cont B):ES X (.Continue pos) B P:=fun Z s r=>wpAny_Continue (here (Ext.refl r) Qb h)
theorem ES.expr{e pos}(h:EV X e B fun _ B1=>P .next B1)(hi:interactive X.env=false:=by rfl)(hs:swapsWith e none pos.line X.env=pure false:=by rfl):ES X (.Expr e pos) B P:=fun Z s r=>
 wpAny_Expr_any (J.use h r fun Z1 s1 B1 d v x1 r1 h1=>here x1 Zz h1) hi hs
noncomputable def AS(X:Cx)(target:PySem.Expr)(d:V)(B:St)(P:St->Prop):Prop:=
 OP1 X (REq (α:=Unit)) (assign target X.env) d B fun _ B'=>P B'
noncomputable def SN(X:Cx)(x:Str)(d:V)(B:St)(P:St->Prop):Prop:=OP1 X (REq (α:=Unit)) (storeName X.env x) d B fun _ B'=>P B'
theorem SN.loc{x d}{Q:St->Prop}{loc'}(hu:Up x d B.loc loc')(h:Q {B with loc:=loc'}):SN X x d B Q:=fun Z s v r hr=>by
 obtain⟨m,hn,hm⟩:=r.ns;obtain⟨u,hx⟩:=hu.has;refine wpAny_storeName_local (r.fr.lk _ hx) hn (fun h' hn' hs=>?_) (by rw[r.fr.kind];rfl);exact here (b:=()) (r.setLoc hu hr hm hn' hs) rfl h
theorem SN.cel{x d}{Q:St->Prop}{cel'}(hu:Up x d B.cel cel')(h:Q {B with cel:=cel'}):SN X x d B Q:=fun Z s v r hr=>by
 obtain⟨u,hx⟩:=hu.has;obtain⟨c,uo,ho,hc,hv,_⟩:=r.cells _ _ hx;refine wpAny_storeName_cell r.fr.kind (r.fr.ck _ hx) hc hv (fun h' hn' hs=>?_);exact here (b:=()) (r.setCel hu hr ho hc hn' hs) rfl h
theorem AS.name{x pos d}{Q:St->Prop}(h:SN X x d B Q):AS X (.Name x pos) d B Q:=fun Z s v r hr=>wpAny_assign_Name (h Z s v r hr)
theorem AS.loc{x pos d}{Q:St->Prop}{loc'}(hu:Up x d B.loc loc')(h:Q {B with loc:=loc'}):AS X (.Name x pos) d B Q:=AS.name (SN.loc hu h)
theorem AS.cel{x pos d}{Q:St->Prop}{cel'}(hu:Up x d B.cel cel')(h:Q {B with cel:=cel'}):AS X (.Name x pos) d B Q:=AS.name (SN.cel hu h)
noncomputable abbrev pAs(X:Cx)(t:PySem.Expr)(Q:St->Prop)(d:V)(B:St):Prop:=AS X t d B Q
theorem ES.asg{t value pos}(h:EV X value B (pAs X t (P .next)))(hs:swapsWithSole [t] value pos.line X.env=pure false)(hw:swappedStores [t] value X.env=pure none)
  (he:(assignEach [t] X.env).map (·.2)=[assign t X.env]):ES X (.Assign [t] value pos) B P:=fun Z s r=>
 wpAny_Assign_stores (by
  rw[he]
  exact J.use h r fun Z1 s1 B1 d v x1 r1 h1=>wpAny_mono (h1 Z1 s1 v x1.rel r1) (fun _ _ q=>by
   obtain⟨Z2,B2,b,x2,rfl,h2⟩:=q
   exact here (x1.trans x2) Zz h2) fun _ _ h=>h) hs hw
theorem ES.asgN{x xp value pos}(h:EV X value B (pAs X (.Name x xp) (P .next)))(hs:swapsWithSole [.Name x xp] value pos.line X.env=pure false)(hw:swappedStores [.Name x xp] value X.env=pure none)
  (he:(assignEach [.Name x xp] X.env).map (·.2)=[assign (.Name x xp) X.env]):ES X (.Assign [.Name x xp] value pos) B P:=ES.asg h hs hw he
theorem lenOk{α:Type}{l:List α}{P:Prop}(h:Nat.ble l.length sizeLine=true)(k:P):l.length ≤ sizeLine /\ P:=⟨le_of_ble_eq_true h,k⟩
end
end
theorem Ue{prog w Z a its n l}(h:Z a=some {cls:=.type "tuple",data:=.seq its n})(hr:VsRel prog w Z l its.toList):VRel prog w Z (.tup l) (.ref a):=⟨a,its,n,rfl,h,hr⟩
theorem Xz{prog w Z a its n l}(h:Z a=some {cls:=.type "list",data:=.seq its n})(hr:VsRel prog w Z l its.toList):VRel prog w Z (.list l) (.ref a):=⟨a,its,n,rfl,h,hr⟩
theorem Jh{prog w Z a lv uv sv l u st}(h:Z a=some {cls:=.type "slice",data:=.fields #[lv,uv,sv]})(h1:IsPart lv l)(h2:IsPart uv u)(h3:IsPart sv st):VRel prog w Z (.slc l u st) (.ref a):=⟨a,lv,uv,sv,rfl,h,h1,h2,h3⟩
theorem Yh{prog w Z a}:VRel prog w Z (.ref a) (.ref a):=rfl
theorem Tk{prog w Z ds vs}(h:VsRel prog w Z ds vs):VsRel prog w Z ds vs.toArray.toList:=by simpa using h
theorem Wd{k:Int}{n j:Nat}(h:seqIndex? k n=some j):(0 ≤ k /\ k < n /\ j=k.toNat) \/ (k < 0 /\ 0 ≤ k + n /\ j=(k + n).toNat):=by
 unfold seqIndex? at h
 by_cases hk:k < 0
 ·simp only[hk,if_true] at h;split at h
  ·rename_i hc;simp only[and_eq_true,decide_eq_true_eq] at hc;cases h;exact .inr ⟨hk,hc.1,rfl⟩
  ·exact nsE h
 ·simp only[hk,if_false] at h;split at h
  ·rename_i hc;simp only[and_eq_true,decide_eq_true_eq] at hc;cases h;exact .inl ⟨hc.1,hc.2,rfl⟩
  ·exact nsE h
section
variable{X:Cx}{B B':St}{Z Z':ZM}{s s':Shared}{P:V->St->Prop}
noncomputable def EVs(X:Cx)(pos:Pos)(es:List PySem.Expr)(B:St)(P:List V->St->Prop):Prop:=J X (RVs X) (spliced (backTo pos (starEach es X.env))) B P
theorem EVs.nil{pos}{Q:List V->St->Prop}(h:Q [] B):EVs X pos [] B Q:=fun Z s r=>wpAny_items_nil (here (b:=[]) (Ext.refl r) rfl h)
noncomputable abbrev pCo(Q:List V->St->Prop)(d:V)(ds:List V)(B:St):Prop:=Q (d::ds) B
noncomputable abbrev pEs(X:Cx)(pos:Pos)(rest:List PySem.Expr)(Q:List V->St->Prop)(d:V)(B:St):Prop:=EVs X pos rest B (pCo Q d)
noncomputable abbrev pTu(P:V->St->Prop)(ds:List V)(B:St):Prop:=ds.length ≤ sizeLine /\ P (.tup ds) B
noncomputable abbrev pLi(P:V->St->Prop)(ds:List V)(B:St):Prop:=ds.length ≤ sizeLine /\ P (.list ds) B
noncomputable abbrev pLm(P:V->St->Prop)(ds:List V)(B:St):Prop:=ds.length ≤ sizeLine /\ ∀ a,P (.ref a) {B with mem:=B.mem++[(a,.list ds)]}
theorem EVs.cons{pos e rest}{Q:List V->St->Prop}(h:EV X e B (pEs X pos rest Q))
  (he:∀ env,starEach (e::rest) env=(false,eval e env)::starEach rest env:=by intro _;rfl):EVs X pos (e::rest) B Q:=fun Z s r=>
 wpAny_items_cons (J.use h r fun Z1 s1 B1 d v x1 r1 h1=>J.use h1 x1.rel fun Z2 s2 B2 ds vs x2 r2 h2=>here (b:=d::ds) (x1.trans x2) ⟨v,vs,rfl,r1.mono x2.le,r2⟩ h2) (he _)
theorem EV.tup{es k pos}(h:EVs X pos es B (pTu P)):EV X (.Tuple es k pos) B P:=fun Z s r=>
 wpAny_Tuple (J.use h r fun Z1 s1 B1 ds vs x1 r1 h1=>by
  refine⟨by rw[VsRel.length r1];exact h1.1,?_⟩;obtain⟨y,le⟩:=x1.pushZ {cls:=.type "tuple",data:=.seq vs.toArray}
  exact here y (Ue Zput.self (Tk (VsRel.mono le r1))) h1.2)
theorem EV.list{es pos}(h:EVs X pos es B (pLi P)):EV X (.List es pos) B P:=fun Z s r=>
 wpAny_List (J.use h r fun Z1 s1 B1 ds vs x1 r1 h1=>by
  refine⟨by rw[VsRel.length r1];exact h1.1,?_⟩;obtain⟨y,le⟩:=x1.pushZ {cls:=.type "list",data:=.seq vs.toArray}
  exact here y (Xz Zput.self (Tk (VsRel.mono le r1))) h1.2)
theorem Ext.pushM(x:Ext X B Z s B' Z' s')(o:Obj){c:Cell}(hf:o.isFreed=false)(hc:CellRel X.prog X.w Z' (s'.heap.push o) s'.heap.objs.size c):
  Ext X B Z s {B' with mem:=B'.mem++[(s'.heap.objs.size,c)]} Z' {s' with heap:=s'.heap.push o}:=by
 haveI y:=x.push o
 haveI r:=y.rel
 haveI hz:Z' s'.heap.objs.size=none:=by
  refine Zb fun o' h=>?_;exact absurd (lt_size (x.rel.zin _ _ h)) (lt_irrefl _)
 haveI hb:X.base.get? s'.heap.objs.size=none:=by
  refine Zb fun o' h=>?_;obtain⟨o2,h2⟩:=x.rel.old.there _ _ h;exact absurd (lt_size h2) (lt_irrefl _)
 haveI ft:Z0 X {B' with mem:=B'.mem++[(s'.heap.objs.size,c)]}=Z0 X B'++[s'.heap.objs.size]:=by
  simp[Z0,keys]
 refine⟨⟨⟨r.fr.lnd,r.fr.lk,r.fr.ck,r.fr.cnd,r.fr.cinj,r.fr.pk,r.fr.dbg,r.fr.kind⟩,r.zin,r.st,r.ztab,r.old,r.os,r.gens,r.ns,r.cells,r.cap,r.ownc,?_,?_,?_,?_,?_,r.g3,?_⟩,y.le,y.keep,?_,x.znew⟩
 ·intro p hp;rcases mem_append.mp hp with hp | hp
  ·exact r.mem p hp
  ·rw[mem_singleton] at hp;subst hp;exact hc
 ·rw[ft];refine nodup_append.mpr ⟨r.nd,by simp,fun a ha b hb=>?_⟩;rw[mem_singleton] at hb;subst hb;intro e;exact absurd (x.rel.lt a ha) (by rw[e];exact lt_irrefl _)
 ·intro a ha;rw[ft] at ha;rcases mem_append.mp ha with ha | ha
  ·exact r.zfoot a ha
  ·rw[mem_singleton] at ha;subst ha;exact hz
 ·intro a ha;rw[ft] at ha;rcases mem_append.mp ha with ha | ha
  ·exact r.bfoot a ha
  ·rw[mem_singleton] at ha;subst ha;exact hb
 ·intro a ha;rw[ft] at ha;rcases mem_append.mp ha with ha | ha
  ·exact r.ex a ha
  ·rw[mem_singleton] at ha;subst ha;exact⟨o,get?_push_size _ hf⟩
 ·intro a ha;simp only[keys,map_append,mem_append,map_cons,map_nil,mem_singleton] at ha;rcases ha with ha | ha
  ·exact r.low a ha
  ·rw[ha];exact x.rel.sz3
 ·intro a ha;simp only[keys,map_append,mem_append,map_cons,map_nil,mem_singleton] at ha;rcases ha with ha | ha
  ·exact x.new a ha
  ·subst ha;exact x.gone (get?_none_of_le (le_refl _))
theorem EV.listM{es pos}(h:EVs X pos es B (pLm P)):EV X (.List es pos) B P:=fun Z s r=>
 wpAny_List (J.use h r fun Z1 s1 B1 ds vs x1 r1 h1=>by
  refine⟨by rw[VsRel.length r1];exact h1.1,?_⟩
  exact here (x1.pushM {cls:=.type "list",data:=.seq vs.toArray} (c:=.list ds) rfl ⟨vs.toArray,⟨0,get?_push_size _ rfl⟩,Tk r1⟩) Yh (h1.2 _))
theorem EV.dictM{pos}(h:∀ a,P (.ref a) {B with mem:=B.mem++[(a,.sdict [] [])]}):EV X (.Dict [] [] pos) B P:=fun Z s r=>
 wpAny_Dict_empty (here ((Ext.refl r).pushM {cls:=.type "dict",data:=.dict #[]} (c:=.sdict [] []) rfl ⟨[],Heap.DictOf.new _,rfl,rfl⟩) Yh (h _))
noncomputable def EVO(X:Cx)(e:Option PySem.Expr)(B:St)(P:Option Int->St->Prop):Prop:=J X (fun _ b a=>IsPart a b) (evalPart e X.env) B P
theorem EVO.none{Q:Option Int->St->Prop}(h:Q none B):EVO X none B Q:=fun Z s r=>wpAny_evalPart_none (here (Ext.refl r) .none h)
noncomputable abbrev pOp(Q:Option Int->St->Prop)(d:V)(B:St):Prop:=∃ i,d=.int i /\ Q (some i) B
noncomputable abbrev pSl3(P:V->St->Prop)(lo hi sp:Option Int)(B:St):Prop:=P (.slc lo hi sp) B
noncomputable abbrev pSl2(X:Cx)(st:Option PySem.Expr)(P:V->St->Prop)(lo hi:Option Int)(B:St):Prop:=EVO X st B (pSl3 P lo hi)
noncomputable abbrev pSl(X:Cx)(u st:Option PySem.Expr)(P:V->St->Prop)(lo:Option Int)(B:St):Prop:=EVO X u B (pSl2 X st P lo)
theorem EVO.some{e}{Q:Option Int->St->Prop}(h:EV X e B (pOp Q)):EVO X (some e) B Q:=fun Z s r=>
 wpAny_evalPart_some (J.use h r fun Z1 s1 B1 d v x1 r1 h1=>by
  obtain⟨i,rfl,h2⟩:=h1;obtain⟨t,rfl⟩:=r1
  exact here x1 (.int i t) h2)
theorem EV.slice{l u st p}(h:EVO X l B (pSl X u st P)):EV X (.Slice l u st p) B P:=fun Z s r=>
 wpAny_Slice (J.use h r fun Z1 s1 B1 lo lv x1 r1 h1=>J.use h1 x1.rel fun Z2 s2 B2 hi hv x2 r2 h2=>J.use h2 x2.rel fun Z3 s3 B3 sp sv x3 r3 h3=>by
  obtain⟨y,le⟩:=((x1.trans x2).trans x3).pushZ {cls:=.type "slice",data:=.fields #[lv,hv,sv]}
  exact here y (Jh Zput.self r1 r2 r3) h3)
noncomputable def SUB(X:Cx)(d1 d2:V)(B:St)(P:V->St->Prop):Prop:=
 ∀ Z s v1 v2,Rel X B Z s->VRel X.prog X.w Z d1 v1->VRel X.prog X.w Z d2 v2->
  (∃ T id,s.TypeIs v1 T /\ typeLookup (.type T) "__getitem__" =pure (some (.builtin id))) /\ wpAny (model X.prog X.w) X.A (getItem v1 v2) (Post X (RV X) B Z s P) Zm s
theorem T8(slice:PySem.Expr)(o i:Value):∃ ops,subscripted slice false o i=operate ops (getItem o i):=by
 cases slice with
 | Slice l u st p=>cases st <;> exact⟨_,rfl⟩
 | _=>exact⟨_,rfl⟩
noncomputable abbrev pSb2(X:Cx)(P:V->St->Prop)(d1 d2:V)(B:St):Prop:=SUB X d1 d2 B P
noncomputable abbrev pSb(X:Cx)(slice:PySem.Expr)(P:V->St->Prop)(d:V)(B:St):Prop:=EV X slice B (pSb2 X P d)
theorem EV.sub{value slice pos}(h:EV X value B (pSb X slice P)):EV X (.Subscript value slice pos) B P:=fun Z s R=>
 Subscript_ (J.use h R fun Z1 s1 B1 d1 v1 x1 r1 h1=>J.use h1 x1.rel fun Z2 s2 B2 d2 v2 x2 r2 h2=>by
  obtain⟨⟨T,id,hT,hl⟩,hg⟩:=h2 Z2 s2 v1 v2 x2.rel (r1.mono x2.le) r2;obtain⟨ops,ho⟩:=T8 slice v1 v2
  exact tail_any hT hl (wpAny_mono hg (fun _ _ q=>q.lift (x1.trans x2)) fun _ _ h=>h) ho)
theorem Rel.plist(r:Rel X B Z s){a:Addr}{its n}(h:Z a=some {cls:=.type "list",data:=.seq its n}):s.heap.PlainList a its:=⟨n,r.zin _ _ h⟩
theorem Rel.ptup(r:Rel X B Z s){a:Addr}{its n}(h:Z a=some {cls:=.type "tuple",data:=.seq its n}):IsTup s.heap a its:=⟨_,r.zin _ _ h,rfl,n,rfl⟩
theorem Rel.pdict{K:Type}[DecidableEq K]{knd:KeyKind X.prog X.w K}{kvs:List (K × Value)}(r:Rel X B Z s){a:Addr}(h:ZDict knd Z a kvs):s.heap.DictOf knd a kvs:=
 let ⟨o,es,ep,e,q⟩:=h;⟨o,es,ep,r.zin _ _ e,q⟩
theorem SUB.list{l:List V}{k:Int}{d:V}{j:Nat}(hk:seqIndex? k l.length=some j)(hd:l[j]?=some d)(hf: -(2 ^ 63) ≤ k /\ k < 2 ^ 63)(h:P d B):SUB X (.list l) (.int k) B P:=fun Z s v1 v2 r h1 h2=>by
 obtain⟨a,its,n,rfl,ha,hr⟩:=h1;obtain⟨t,rfl⟩:=h2
 haveI pl:=(r.plist ha).isList
 haveI hlen:its.size=l.length:=by rw[<- hr.length];simp
 refine⟨⟨_,_,⟨_,r.zin _ _ ha,rfl⟩,slot_list_getitem.lookup⟩,?_⟩;obtain⟨v,hv,hrv⟩:=hr.get hd
 haveI hv':its[j]?=some v:=by exact(getElem?_toList ..).symm.trans (hv)
 rcases Wd hk with⟨h0,h1,rfl⟩ | ⟨h0,h1,rfl⟩
 ·exact wpAny_getItem_list pl h0 hf.2 hv' (here (Ext.refl r) hrv h)
 ·exact wpAny_getItem_list_neg pl h0 (hlen ▸ V8 h1) hf.1 (by rw[hlen];exact hv') (here (Ext.refl r) hrv h)
theorem SUB.tup{l:List V}{k:Int}{d:V}{j:Nat}(hk:seqIndex? k l.length=some j)(hd:l[j]?=some d)(hf: -(2 ^ 63) ≤ k /\ k < 2 ^ 63)(h:P d B):SUB X (.tup l) (.int k) B P:=fun Z s v1 v2 r h1 h2=>by
 obtain⟨a,its,n,rfl,ha,hr⟩:=h1;obtain⟨t,rfl⟩:=h2
 haveI hlen:its.size=l.length:=by rw[<- hr.length];simp
 refine⟨⟨_,_,⟨_,r.zin _ _ ha,rfl⟩,slot_tuple_getitem.lookup⟩,?_⟩;obtain⟨v,hv,hrv⟩:=hr.get hd;exact PyProof.Rows.getItem_tuple (r.ptup ha) hf.1 hf.2 (by rw[hlen];exact hk) (by exact(getElem?_toList ..).symm.trans (hv)) (here (Ext.refl r) hrv h)
inductive UpM(a:Addr)(c:Cell):List (Addr × Cell)->List (Addr × Cell)->Prop
 | head {u l}:UpM a c ((a,u)::l) ((a,c)::l)
 | tail {p l l'}:UpM a c l l'->UpM a c (p::l) (p::l')
theorem UpM.keys{a c l l'}(h:UpM a c l l'):Mine.keys l'=Mine.keys l:=by
 induction h with
 | head=>rfl
 | tail _ ih=>simpa [Mine.keys] using ih
theorem UpM.has{a c l l'}(h:UpM a c l l'):a ∈ Mine.keys l:=by
 induction h with
 | head=>exact mem_cons_self
 | tail _ ih=>exact mem_cons_of_mem _ (by assumption)
theorem UpM.mem{a c l l'}(h:UpM a c l l'):(Mine.keys l).Nodup->∀ p,p ∈ l'->p=(a,c) \/ (p ∈ l /\ p.1 ≠ a):=by
 induction h with
 | @head u l=>
  intro nd p hm;rcases mem_cons.mp hm with h | h
  ·exact .inl h
  ·refine .inr ⟨.tail _ h,?_⟩;rintro rfl;simp only[Mine.keys,map_cons,nodup_cons] at nd;exact nd.1 (mem_map_of_mem (f:=(·.1)) h)
 | @tail q l l' hu ih=>
  intro nd p hm;rcases mem_cons.mp hm with h | h
  ·subst h;refine .inr ⟨.head _,?_⟩;rintro rfl;simp only[Mine.keys,map_cons,nodup_cons] at nd;exact nd.1 hu.has
  ·simp only[Mine.keys,map_cons,nodup_cons] at nd;rcases ih nd.2 p h with h | h
   ·exact .inl h
   ·exact .inr ⟨.tail _ h.1,h.2⟩
theorem Rel.setMem(r:Rel X B Z s){a:Addr}{c:Cell}{mem':List (Addr × Cell)}(hu:UpM a c B.mem mem'){h':Heap}(hs:Heap.SameBut a s.heap h')
  (hc:CellRel X.prog X.w Z h' a c):Ext X B Z s {B with mem:=mem'} Z {s with heap:=h'}:=by
 have hk:=hu.keys;have hL:a ∈ Z0 X B:=mem_cons_of_mem _ (mem_append_right _ hu.has);have nd:=r.nd;have k:∀ b o,s.heap.get? b=some o->b ∉ Z0 X B->h'.get? b=some o:=fun b o e hb=>(hs.2 b (fun h=>hb (h ▸ hL))).trans e;have ft:Z0 X {B with mem:=mem'}=Z0 X B:=by unfold Z0;rw[hk]
 have nd2:(keys B.mem).Nodup:=by
  unfold Z0 at nd;exact(nodup_append.mp (nodup_cons.mp nd).2).2.1
 have neL:X.env.locals ≠ a:=fun e=>by
  unfold Z0 at nd;exact(nodup_cons.mp nd).1 (e ▸ mem_append_right _ hu.has)
 refine⟨⟨⟨r.fr.lnd,r.fr.lk,r.fr.ck,r.fr.cnd,r.fr.cinj,r.fr.pk,r.fr.dbg,r.fr.kind⟩,fun b o e=>Xr r (fun b o e hb _=>k b o e hb) b o e,r.st,r.ztab,r.oldKeep k,r.os,r.gens,?_,?_,r.cap,fun c' hc'=>?_,?_,by rw[ft];exact r.nd,by rw[ft];exact r.zfoot,by rw[ft];exact r.bfoot,?_,r.g3,by rw[hk];exact r.low⟩,
  fun _ _ e=>e,fun b o e hb _=>k b o e hb,fun b h=>.inl (by rw[<- hk];exact h),fun _ _ h=>.inl h⟩
 ·obtain⟨m,hn,hm⟩:=r.ns;exact⟨m,hn.sameBut hs neL,hm⟩
 ·intro y ov hy;obtain⟨c',uo,ho,hc',hv,hr⟩:=r.cells y ov hy;refine⟨c',uo,ho,hc',hv.sameBut hs ?_,hr⟩;rintro rfl;unfold Z0 at nd;exact(nodup_append.mp (nodup_cons.mp nd).2).2.2 _ ho _ hu.has rfl
 ·obtain⟨uo,hv⟩:=r.ownc c' hc';refine⟨uo,hv.sameBut hs ?_⟩;rintro rfl;unfold Z0 at nd;exact(nodup_append.mp (nodup_cons.mp nd).2).2.2 _ hc' _ hu.has rfl
 ·intro p hp;rcases hu.mem nd2 p hp with rfl | ⟨hp,hne⟩
  ·exact hc
  ·exact(r.mem p hp).mono (fun _ _ e=>e) fun o e=>(hs.2 _ hne).trans e
 ·rw[ft];intro b hb
  by_cases h:b=a
  ·subst h
   revert hc
   cases c <;> intro hc
   ·obtain⟨_,⟨_,h⟩,_⟩:=hc;exact⟨_,h⟩
   ·obtain⟨_,⟨o,_,_,h,_⟩,_⟩:=hc;exact⟨o,h⟩
   ·obtain⟨_,⟨o,_,_,h,_⟩,_⟩:=hc;exact⟨o,h⟩
   ·obtain⟨_,⟨o,_,_,h,_⟩,_⟩:=hc;exact⟨o,h⟩
   ·obtain⟨o,h,_⟩:=hc;exact⟨o,h⟩
  ·obtain⟨o,ho⟩:=r.ex b hb;exact⟨o,(hs.2 b h).trans ho⟩
noncomputable def CALL(X:Cx)(f:Value)(ds:List V)(B:St)(P:V->St->Prop):Prop:=
 ∀ Z s vs,Rel X B Z s->VsRel X.prog X.w Z ds vs->wpAny (model X.prog X.w) X.A (call f vs []) (Post X (RV X) B Z s P) Zm s
noncomputable def Keep(X:Cx)(B:St)(f:Value):Prop:=∀ Z s (Q:Keeper->Shared->Prop),Rel X B Z s->(∀ k,Q k s)->wpAny (model X.prog X.w) X.A (keeperOf f) Q Zm s
theorem Keep.builtin{id}:Keep X B (.builtin id):=fun Z s Q r h=>wpAny_pure (h _)
theorem Keep.type{T}:Keep X B (.type T):=fun Z s Q r h=>wpAny_pure (h _)
theorem Rel.base(r:Rel X B Z s){a:Addr}{o:Obj}(h:X.base.get? a=some o)(hc:o.cls ≠ .none):s.heap.get? a=some o:=
 r.zin _ _ (r.st _ _ h fun hh0=>by obtain⟨o',vs,ho',hc',_⟩:=hh0;rw[h] at ho';cases ho';exact hc hc')
theorem Keep.func{a o fd}(ho:X.base.get? a=some o)(hd:o.data=.func fd)(hc:o.cls ≠ .none):Keep X B (.ref a):=fun Z s Q r h=>by
 unfold keeperOf;refine wpAny_bind (wpAny_load (r.base ho hc) ?_);rw[hd];exact wpAny_pure (h _)
theorem Keep.funcZ{a o fd}(ho:∀ Z s,Rel X B Z s->s.heap.get? a=some o)(hd:o.data=.func fd):Keep X B (.ref a):=fun Z s Q r h=>by
 unfold keeperOf;refine wpAny_bind (wpAny_load (ho Z s r) ?_);rw[hd];exact wpAny_pure (h _)
theorem Yg{pos:Pos}{l:List (Bool × Sem Value)}:(l.any (·.1))=false->(backTo pos l).any (·.1)=false:=by
 intro h;unfold backTo;rw[List.any_map];exact h
theorem Ru{M:Model}{A:Around}{E:Value->Shared->Prop}{s:Shared}{f:Value}{args:List (Bool × Sem Value)}{Q:Args->Shared->Prop}(hp:args.any (·.1)=false)
  (h:wpAny M A (spliced args) (fun vs s'=>Q ⟨vs,[]⟩ s') E s):wpAny M A (evalArgs f true args []) Q E s:=by
 match args,hp with
 | [],_=>
  unfold evalArgs;show wpAny M A (spliced [] >>= _) Q E s;refine wpAny_bind (wpAny_mono h (fun vs s1 h1=>wpAny_bind (wpAny_pure ?_)) fun _ _ h=>h);refine wpAny_holding ?_;exact wpAny_bind (wpAny_pure (wpAny_bind (wpAny_pure (wpAny_pure h1))))
 | (b,x)::rest,hp=>
  simp only[List.any_cons,Bool.or_eq_false_iff] at hp;obtain⟨rfl,_⟩:=hp;exact evalArgs_plain h
theorem Ye{M:Model}{A:Around}{E:Value->Shared->Prop}{s:Shared}{pos:Pos}{f:Value}{first:List Value}{args:List (Bool × Sem Value)}{Q:Value->Shared->Prop}(hp:args.any (·.1)=false)
  (h:wpAny M A (spliced args) (fun vs s₁=>(∀ (Q:Keeper->Shared->Prop),(∀ k,Q k s₁)->wpAny M A (keeperOf f) Q E s₁) /\ wpAny M A (call f (first++vs) []) Q E s₁) E s):
  wpAny M A (callWith pos f first args []) Q E s:=by
 unfold callWith;refine wpAny_bind (wpAny_holding (wpAny_mono (Ru hp (Q:=fun a s₁=>a.kw=[] /\ (∀ (Q:Keeper->Shared->Prop),(∀ k,Q k s₁)->wpAny M A (keeperOf f) Q E s₁) /\ wpAny M A (call f (first++a.pos) []) Q E s₁) (wpAny_mono h (fun vs s1 h1=>⟨rfl,h1⟩) fun _ _ h=>h)) (fun a s1 h1=>wpAny_bind (wpAny_standAt ?_)) fun _ _ h=>h));obtain⟨hk,hkeep,hc⟩:=h1;obtain⟨apos,akw⟩:=a;simp only at hk hc;subst hk;rw[hp];have fin:∀ {t:Sem Value},wpAny M A t Q E s1->wpAny M A (t >>= fun r=>holding [r] point >>= fun _=>pure r) Q E s1:=fun h=>wpAny_bind (wpAny_mono h (fun r s2 h2=>wpAny_bind (wpAny_holding (wpAny_point (wpAny_pure h2)))) fun _ _ h=>h);refine wpAny_bind (hkeep _ fun k=>?_);cases k with
 | frame=>
  show wpAny M A (if _ > 30 then _ else _) Q E s1;split
  ·exact fin hc
  ·exact fin (wpAny_keep hc)
 | boundFrame=>
  show wpAny M A (if _ > 30 then _ else _) Q E s1;split
  ·exact fin hc
  ·exact fin (wpAny_keep hc)
 | machine=>exact fin hc
 | caller=>exact fin (wpAny_operating hc)
theorem EV.call{func args pos}(h:EV X func B fun f B1=>∃ fv,(∀ Z v,VRel X.prog X.w Z f v->v=fv) /\ EVs X pos args B1 fun ds B2=>Keep X B2 fv /\ CALL X fv ds B2 P)
  (hp:∀ env,(starEach args env).any (·.1)=false:=by intro _;rfl)
  (he:∀ env,eval (.Call func args [] pos) env=(do callWith pos (<- eval func env) [] (backTo pos (starEach args env)) (backToKw pos (keywordEach [] env))):=by intro _;rfl):EV X (.Call func args [] pos) B P:=fun Z s r=>by
 rw[he];refine wpAny_bind (J.use h r fun Z1 s1 B1 f v x1 r1 h1=>?_);obtain⟨fv,hf,h2⟩:=h1;cases hf _ _ r1;refine Ye (Yg (hp _)) (J.use h2 x1.rel fun Z2 s2 B2 ds vs x2 r2 h3=>?_);refine⟨fun Q hQ=>h3.1 Z2 s2 Q x2.rel hQ,?_⟩;exact wpAny_mono (h3.2 Z2 s2 vs x2.rel r2) (fun _ _ q=>q.lift (x1.trans x2)) fun _ _ h=>h
noncomputable def TypeV(X:Cx)(B:St)(d:V)(T:String):Prop:=∀ Z s v,Rel X B Z s->VRel X.prog X.w Z d v->s.TypeIs v T /\ (∀ a,v=.ref a->∃ ob,s.heap.get? a=some ob /\ ob.dict=none)
theorem TypeV.list{l}:TypeV X B (.list l) "list" :=fun Z s v r hh0=>by
 obtain⟨a,its,n,e,z,_⟩:=hh0;subst e;exact⟨⟨_,r.zin _ _ z,rfl⟩,fun b e=>by cases e;exact⟨_,r.zin _ _ z,rfl⟩⟩
theorem TypeV.tup{l}:TypeV X B (.tup l) "tuple" :=fun Z s v r hh0=>by
 obtain⟨a,its,n,e,z,_⟩:=hh0;subst e;exact⟨⟨_,r.zin _ _ z,rfl⟩,fun b e=>by cases e;exact⟨_,r.zin _ _ z,rfl⟩⟩
theorem TypeV.str{x}:TypeV X B (.str x) "str" :=fun Z s v r hh0=>by
 obtain⟨t,e⟩:=hh0;subst e;exact⟨rfl,fun b e=>by exact(nomatch e)⟩
theorem TypeV.sdict{ks l}:TypeV X B (.sdict ks l) "dict" :=fun Z s v r hh0=>by
 obtain⟨a,vs,e,_,z,_⟩:=hh0;subst e;have hd:=r.pdict z;exact⟨hd.typeIs,hd.mapOf.noDict⟩
theorem TypeV.cell{a l}(h:(a,Cell.list l) ∈ B.mem):TypeV X B (.ref a) "list" :=fun Z s v r e=>by
 cases e;obtain⟨its,⟨n,hp⟩,_⟩:=r.mem _ h;exact⟨⟨_,hp,rfl⟩,fun b e=>by cases e;exact⟨_,hp,rfl⟩⟩
noncomputable abbrev pCa(X:Cx)(f:Value)(P:V->St->Prop)(ds:List V)(B:St):Prop:=CALL X f ds B P
noncomputable abbrev pMe(X:Cx)(T id:String)(pos:Pos)(args:List PySem.Expr)(P:V->St->Prop)(d:V)(B:St):Prop:=TypeV X B d T /\ EVs X pos args B (pCo (pCa X (.builtin id) P) d)
theorem EV.meth{o name apos args pos}(T id:String)(pa:PlainAttrs T)(slot:Slot T name id)(hty:typeOf (.builtin id)=pure (.type "method_descriptor"))
  (h:EV X o B (pMe X T id pos args P))
  (hbase:∀ env,attributeBase o name env (eval o env)=eval o env:=by intro _;rfl)
  (hfew:∀ env,((backTo pos (starEach args env)).all (fun x=>!x.1) && (backToKw pos (keywordEach [] env)).all (fun x=>x.1.isSome)
   && decide (args.length + ([]:List Keyword).length + (if ([]:List Keyword).isEmpty then 0 else 1) < 30))=true:=by intro _;rfl)
  (hline:(apos.endLine == pos.line)=true:=by rfl) (hp:∀ env,(starEach args env).any (·.1)=false:=by intro _;rfl):EV X (.Call (.Attribute o name apos) args [] pos) B P:=fun Z s r=>by
 refine wpAny_Call_method_late (hbase _) (hfew _) hline rfl (J.use h r fun Z1 s1 B1 d v x1 r1 h1=>?_);obtain⟨ht,h2⟩:=h1;obtain⟨ht1,ht2⟩:=ht Z1 s1 v x1.rel r1;refine⟨T,id,pa,slot,hty,ht1,ht2,?_⟩;refine Ye (Yg (hp _)) (J.use h2 x1.rel fun Z2 s2 B2 ds vs x2 r2 h3=>?_);refine⟨fun Q hQ=>wpAny_pure (hQ _),?_⟩;exact wpAny_mono (h3 Z2 s2 (v::vs) x2.rel ⟨v,vs,rfl,r1.mono x2.le,r2⟩) (fun _ _ q=>q.lift (x1.trans x2)) fun _ _ h=>h
structure Rm(A:Around)(k:Nat):Prop where
 handled:A.handled=none
 depth:A.depth + k ≤ 900
 units:A.units + 10 * k ≤ 9000
theorem Rm.un{A:Around}{k n:Nat}(h:Rm A (k + 1))(hn:n ≤ 10):A.units + n + 10 * k ≤ 9000:=le_trans (le_of_eq (add_right_comm ..)) (le_trans (add_le_add_left hn _) h.units)
theorem Rm.deeper{A:Around}{k:Nat}{env:Env}(h:Rm A (k + 1)):Rm (A.deeper env) k:=⟨h.handled,le_trans (le_of_eq (succ_add A.depth k)) h.depth,Rm.un (n:=3) h (by decide)⟩
theorem Rm.in1{A:Around}{k:Nat}(h:Rm A (k + 1)):Rm A.in1 k:=⟨h.handled,le_trans (le_succ _) h.depth,Rm.un (n:=1) h (by decide)⟩
theorem Rm.le{A:Around}{k k':Nat}(h:Rm A k)(hk:k' ≤ k):Rm A k':=⟨h.handled,le_trans (add_le_add_left hk _) h.depth,le_trans (add_le_add_left (mul_le_mul_left 10 hk) _) h.units⟩
theorem Rm.room{A:Around}{k:Nat}(h:Rm A k):A.depth < recursionLimit:=lt_of_le_of_lt (le_trans (le_add_right _ k) h.depth) (by decide)
theorem Rm.cl{A:Around}{k:Nat}(h:Rm A k):A.units + 800 < cLine:=lt_of_le_of_lt (add_le_add_right (le_trans (le_add_right _ _) h.units) 800) (by decide:9000 + 800 < cLine)
theorem Rm.clN{A:Around}{k n:Nat}(h:Rm A k)(hn:n ≤ 700):A.units + n < cLine:=lt_of_le_of_lt (add_le_add_left (le_trans hn (by decide)) _) h.cl
theorem Rm.cl1{A:Around}{k n:Nat}(h:Rm A k)(hn:n ≤ 700):A.units + 1 + n < cLine:=lt_of_le_of_lt (le_trans (le_of_eq (add_assoc ..)) (add_le_add_left (le_trans (add_le_add_left hn 1) (by decide:1 + 700 ≤ 800)) _)) h.cl
theorem Ext.keepAll(r:Rel X B Z s){h':Heap}{tk:Nat}(hk:∀ b o,s.heap.get? b=some o->h'.get? b=some o):Ext X B Z s B Z {s with heap:=h',toks:=tk}:=by
 refine⟨⟨r.fr,fun a o e=>hk _ _ (r.zin a o e),r.st,r.ztab,r.old.step_keeps hk,r.os,r.gens,?_,?_,r.cap,(fun c hc=>let ⟨uo,hv⟩:=r.ownc c hc;⟨uo,hv.keeps hk⟩),?_,r.nd,r.zfoot,r.bfoot,?_,r.g3,r.low⟩,fun _ _ e=>e,fun a o e _ _=>hk _ _ e,fun _ h=>.inl h,fun _ _ h=>.inl h⟩
 ·obtain⟨m,hn,hm⟩:=r.ns;exact⟨m,hn.keeps hk,hm⟩
 ·intro y ov hy;obtain⟨c,uo,ho,hc,hv,hr⟩:=r.cells y ov hy;exact⟨c,uo,ho,hc,hv.keeps hk,hr⟩
 ·intro p hp;exact(r.mem p hp).mono (fun _ _ h=>h) (fun o' e=>hk _ _ e)
 ·intro a ha;obtain⟨o',ho'⟩:=r.ex a ha;exact⟨o',hk _ _ ho'⟩
noncomputable def V2(h:Heap)(L:Addr):List (Addr × Obj):=(List.range h.objs.size).filterMap fun a=>if a=L then none else (h.get? a).map (a,·)
theorem mem_allNews{h:Heap}{L a:Addr}{o:Obj}:(a,o) ∈ V2 h L ↔ h.get? a=some o /\ a ≠ L:=by
 delta V2
 simp only[List.mem_filterMap,mem_range]
 constructor
 ·rintro⟨b,hb,e⟩;split at e
  ·exact nsE e
  ·rename_i hne;cases hg:h.get? b with
   | none=>rw[hg] at e;exact nsE e
   | some o'=>rw[hg] at e;cases e;exact⟨hg,hne⟩
 ·rintro⟨e,hne⟩;exact⟨a,lt_size e,by rw[if_neg hne,e];rfl⟩
noncomputable def noHeap:Heap:={}
theorem S2(a:Addr):noHeap.get? a=none:=by unfold Heap.get? noHeap;rfl
theorem Rel.frame(r:Rel X B Z s){m:Str->Option Value}(hn:s.heap.Ns X.env.locals m):Fr noHeap X.env.locals s.heap m:=⟨hn,(fun b o e=>by rw[S2] at e;exact nsE e),zero_le _⟩
theorem Rel.news(r:Rel X B Z s):News noHeap X.env.locals s.heap (V2 s.heap X.env.locals):=fun p hp=>by
 obtain⟨a,o⟩:=p;obtain⟨e,hne⟩:=mem_allNews.mp hp;exact⟨e,hne,S2 _⟩
theorem Ext.ofFr(r:Rel X B Z s){m:Str->Option Value}{h':Heap}{tk:Nat}(hm:∀ y ov,(y,ov) ∈ B.loc->ORel X.prog X.w Z ov (m y))(F:Fr noHeap X.env.locals h' m)(N:News noHeap X.env.locals h' (V2 s.heap X.env.locals)):
  Ext X B Z s B Z {s with heap:=h',toks:=tk}:=by
 have k:∀ b o,s.heap.get? b=some o->b ≠ X.env.locals->h'.get? b=some o:=fun b o e hb=>(N (b,o) (mem_allNews.mpr ⟨e,hb⟩)).1;have hL:X.env.locals ∈ Z0 X B:=mem_cons_self;have nd:=r.nd;unfold Z0 at nd;have k2:∀ b o,s.heap.get? b=some o->b ∉ Z0 X B->h'.get? b=some o:=fun b o e hb=>k b o e fun h=>hb (h ▸ hL);refine⟨⟨r.fr,fun a o e=>Xr r (fun b o e hb _=>k2 b o e hb) a o e,r.st,r.ztab,r.oldKeep k2,r.os,r.gens,⟨m,F.ns,hm⟩,?_,r.cap,fun c hc=>?_,?_,r.nd,r.zfoot,r.bfoot,?_,r.g3,r.low⟩,fun _ _ e=>e,fun a o e hf _=>k2 _ _ e hf,fun _ h=>.inl h,fun _ _ h=>.inl h⟩
 ·intro y ov hy;obtain⟨c,uo,hw,hc,⟨o,ho,hd⟩,hr⟩:=r.cells y ov hy;refine⟨c,uo,hw,hc,⟨o,k _ _ ho ?_,hd⟩,hr⟩;rintro rfl;exact(nodup_cons.mp nd).1 (mem_append_left _ hw)
 ·obtain⟨uo,o,ho,hd⟩:=r.ownc c hc;refine⟨uo,o,k _ _ ho ?_,hd⟩;rintro rfl;exact(nodup_cons.mp nd).1 (mem_append_left _ hc)
 ·intro p hp;refine(r.mem p hp).mono (fun _ _ h=>h) (fun o' e=>k _ _ e ?_);intro h
  delta keys at nd
  exact(nodup_cons.mp nd).1 (mem_append_right _ (mem_map.mpr ⟨p,hp,h⟩))
 ·intro a ha
  by_cases h:a=X.env.locals
  ·subst h;obtain⟨o,_,_,ho,_⟩:=F.ns;exact⟨o,ho⟩
  ·obtain⟨o',ho'⟩:=r.ex a ha;exact⟨o',k _ _ ho' h⟩
noncomputable def W6(Z:ZM)(S:List Addr):ZM:=fun a=>if a ∈ S then none else Z a
section
variable{prog:Program}{w:World}{S:List Addr}(hS:∀ a o,a ∈ S->Z a=some o->∃ v,o.data=.cell v)
include hS
theorem Xc{a:Addr}{o:Obj}(h:Z a=some o)(hd:∀ v,o.data ≠ .cell v):W6 Z S a=some o:=by
 delta W6
 split
 ·rename_i hm;obtain⟨v,e⟩:=hS a o hm h;exact absurd e (hd v)
 ·exact h
mutual
theorem VRel.out:∀ {d:V} {v:Value},VRel prog w Z d v->VRel prog w (W6 Z S) d v
 | .none,_,h=>h
 | .bool _,_,h=>h
 | .int _,_,h=>h
 | .str _,_,h=>h
 | .tup _,_,h=>by obtain⟨a,its,n,e,z,r⟩:=h;exact⟨a,its,n,e,Xc hS z (by intro v h;exact(nomatch h)),VsRel.out r⟩
 | .list _,_,h=>by obtain⟨a,its,n,e,z,r⟩:=h;exact⟨a,its,n,e,Xc hS z (by intro v h;exact(nomatch h)),VsRel.out r⟩
 | .sdict _ _,_,h=>by obtain⟨a,vs,e,lo,⟨o,es,ep,z,q,hd,q2⟩,l,r⟩:=h;exact⟨a,vs,e,lo,⟨o,es,ep,Xc hS z (by intro v h;rw[hd] at h;exact(nomatch h)),q,hd,q2⟩,l,VsRel.out r⟩
 | .idict _ _,_,h=>by obtain⟨a,vs,e,lo,⟨o,es,ep,z,q,hd,q2⟩,l,r⟩:=h;exact⟨a,vs,e,lo,⟨o,es,ep,Xc hS z (by intro v h;rw[hd] at h;exact(nomatch h)),q,hd,q2⟩,l,VsRel.out r⟩
 | .rng _ _,_,h=>by obtain⟨r,t,u,x,e,z⟩:=h;exact⟨r,t,u,x,e,Xc hS z (by intro v h;exact(nomatch h))⟩
 | .slc _ _ _,_,h=>by obtain⟨a,lv,uv,sv,e,z,q⟩:=h;exact⟨a,lv,uv,sv,e,Xc hS z (by intro v h;exact(nomatch h)),q⟩
 | .view _ _,_,h=>by obtain⟨a,da,e,z,q⟩:=h;exact⟨a,da,e,Xc hS z (by intro v h;exact(nomatch h)),VRel.out q⟩
 | .ref _,_,h=>h
 | .lit _,_,h=>h
 | .raw _ k,_,h=>k _ _ _ (fun a o e hd=>Xc hS e hd) h
theorem VsRel.out:∀ {l:List V} {vs:List Value},VsRel prog w Z l vs->VsRel prog w (W6 Z S) l vs
 | [],_,h=>h
 | _::_,_,h=>by obtain⟨v,r,e,h,q⟩:=h;exact⟨v,r,e,VRel.out h,VsRel.out q⟩
end
theorem CellRel.out{h:Heap}{a:Addr}:∀ {c:Cell},CellRel prog w Z h a c->CellRel prog w (W6 Z S) h a c
 | .list _,h=>by obtain⟨its,p,r⟩:=h;exact⟨its,p,r.out hS⟩
 | .sdict _ _,h=>by obtain⟨vs,p,l,r⟩:=h;exact⟨vs,p,l,r.out hS⟩
 | .idict _ _,h=>by obtain⟨vs,p,l,r⟩:=h;exact⟨vs,p,l,r.out hS⟩
 | .ns _,h=>by
  obtain⟨m,n,r,q'⟩:=h;exact⟨m,n,fun x d hx=>by obtain⟨v,hv,q⟩:=r x d hx;exact⟨v,hv,q.out hS⟩,q'⟩
 | .raw _,h=>h
end
theorem Pk{A':Around}{env':Env}{own':List Addr}{B₁:St}{Z₁:ZM}{s₁:Shared}{sub rest:List (Addr × Cell)}(r:Rel X B Z s)(hmem:B.mem=sub++rest)(hk₁:∀ b o,s.heap.get? b=some o->s₁.heap.get? b=some o)
  (hle:Z.le Z₁) (hz₁:∀ a o,Z₁ a=some o->Z a=some o \/ (a ∈ X.own /\ ∃ v,o.data=.cell v)) (hf:∀ b ∈ Z0 {X with A:=A',env:=env',own:=own'} B₁,b ∈ keys sub \/ s.heap.get? b=none)
  (xrel:Rel {X with A:=A',env:=env',own:=own'} B' Z' s') (xle:Z₁.le Z')
  (xkeep:∀ a o,s₁.heap.get? a=some o->a ∉ Z0 {X with A:=A',env:=env',own:=own'} B₁->¬ Tb X a->s.heap.get? a ≠ none->s'.heap.get? a=some o)
  (xnew:∀ a ∈ keys B'.mem,a ∈ keys B₁.mem \/ s₁.heap.get? a=none) (xznew:∀ a o,Z' a=some o->Z₁ a=some o \/ a ∈ keys B₁.mem \/ s₁.heap.get? a=none):
  Ext X B Z s {B with mem:=B'.mem++rest} (W6 Z' X.own) s' /\ ∀ a o,a ∈ X.own->Z' a=some o->∃ v,o.data=.cell v:=by
 have r':=xrel;have nd:=r.nd;have e2:keys B.mem=keys sub++keys rest:=by rw[hmem];exact map_append
 have fsub:∀ b ∈ keys sub,b ∈ Z0 X B:=fun b hb=>by delta Z0;rw[e2];exact mem_cons_of_mem _ (mem_append_right _ (mem_append_left _ hb))
 have frest:∀ b ∈ keys rest,b ∈ Z0 X B:=fun b hb=>by delta Z0;rw[e2];exact mem_cons_of_mem _ (mem_append_right _ (mem_append_right _ hb))
 have inL:X.env.locals ∈ Z0 X B:=mem_cons_self;have inC:∀ c ∈ X.own,c ∈ Z0 X B:=fun c hc=>mem_cons_of_mem _ (mem_append_left _ hc);unfold Z0 at nd;rw[e2] at nd;have n1:=nodup_cons.mp nd;have n2:=nodup_append.mp n1.2;have n3:=nodup_append.mp n2.2.1;have fL:X.env.locals ∉ keys sub:=fun hm=>n1.1 (mem_append_right _ (mem_append_left _ hm));have fC:∀ c ∈ X.own,c ∉ keys sub:=fun c hc hm=>n2.2.2 c hc c (mem_append_left _ hm) rfl;have fR:∀ c ∈ keys rest,c ∉ keys sub:=fun c hc hm=>n3.2.2 c hm c hc rfl
 have notb:∀ b ∈ Z0 X B,¬ Tb X b:=fun b hb ht=>by
  obtain⟨ob,_,e,_⟩:=ht;rw[r.bfoot b hb] at e;exact nsE e
 have kp:∀ b o,s.heap.get? b=some o->b ∉ keys sub->¬ Tb X b->s'.heap.get? b=some o:=fun b o e hb ht=>by
  refine xkeep b o (hk₁ _ _ e) (fun hm=>?_) ht (by rw[e];exact Option.some_ne_none _);rcases hf b hm with h | h
  ·exact hb h
  ·rw[h] at e;exact nsE e
 have gone:∀ b,s₁.heap.get? b=none->s.heap.get? b=none:=fun b h=>by
  refine Zb fun o' e=>?_;rw[hk₁ b o' e] at h;exact snE h
 have ks:∀ b ∈ keys B'.mem,b ∈ keys sub \/ s.heap.get? b=none:=fun b hb=>by
  rcases xnew b hb with h | h
  ·exact hf b (mem_cons_of_mem _ (mem_append_right _ h))
  ·exact .inr (gone b h)
 have notks:∀ b ∈ Z0 X B,b ∉ keys sub->b ∉ keys B'.mem:=fun b hb hs hm=>by
  rcases ks b hm with h | h
  ·exact hs h
  ·obtain⟨o',ho'⟩:=r.ex b hb;rw[h] at ho';exact nsE ho'
 have zn:∀ b,b ∈ Z0 X B->b ∉ keys sub->∀ o,Z' b=some o->b ∈ X.own /\ ∃ v,o.data=.cell v:=fun b hb hs o e=>by
  obtain⟨o2,h2⟩:=r.ex b hb;rcases xznew b o e with h | h | h
  ·rcases hz₁ b o h with h | h
   ·rw[r.zfoot b hb] at h;exact nsE h
   ·exact h
  ·rcases hf b (mem_cons_of_mem _ (mem_append_right _ h)) with h | h
   ·exact absurd h hs
   ·rw[h] at h2;exact nsE h2
  ·rw[gone b h] at h2;exact nsE h2
 have hS:∀ a o,a ∈ X.own->Z' a=some o->∃ v,o.data=.cell v:=fun a o ha e=>(zn a (inC a ha) (fC a ha) o e).2;have zo:∀ a o,W6 Z' X.own a=some o->Z' a=some o:=fun a o h=>by delta W6 at h;split at h;exact nsE h;exact h
 have zi:∀ a o,Z a=some o->W6 Z' X.own a=some o:=fun a o h=>by
  delta W6
  split
  ·rename_i hm;rw[r.zfoot a (inC a hm)] at h;exact nsE h
  ·exact xle _ _ (hle _ _ h)
 have ft:∀ b,b ∈ Z0 X {B with mem:=B'.mem++rest} ↔ b=X.env.locals \/ b ∈ X.own \/ b ∈ keys B'.mem \/ b ∈ keys rest:=fun b=>by
  delta Z0 keys;simp only[map_append,mem_cons,mem_append]
 have ng:∀ b ∈ Z0 X B,b ∉ keys sub->W6 Z' X.own b=none:=fun b hb hs=>by
  refine Zb fun o e=>?_;have:=zn b hb hs o (zo _ _ e);unfold W6 at e;rw[if_pos this.1] at e;exact nsE e
 refine⟨⟨⟨⟨r.fr.lnd,r.fr.lk,r.fr.ck,r.fr.cnd,r.fr.cinj,r.fr.pk,r.fr.dbg,r.fr.kind⟩,fun a o e=>r'.zin _ _ (zo _ _ e),fun a o e ht=>zi _ _ (r.st a o e ht),fun a ha=>?_,r'.old,r'.os,r'.gens,?_,?_,?_,fun c hc=>?_,?_,?_,?_,?_,?_,(let ⟨o3,h3⟩:=r.g3;⟨o3,zi _ _ h3⟩),?_⟩,fun a o e=>zi _ _ e,fun b o e hf' ht=>kp b o e (fun hm=>hf' (fsub b hm)) ht,fun b hb=>?_,fun b o' hz=>?_⟩,hS⟩
 ·refine Zb fun o e=>?_;have h1:=zo _ _ e;rw[r'.ztab a ha] at h1;exact nsE h1
 ·obtain⟨m,hn,hm⟩:=r.ns;exact⟨m,hn.at' fun o e=>kp _ _ e fL (notb _ inL),fun y ov hy=>(hm y ov hy).mono zi⟩
 ·intro y' ov hy;obtain⟨c,uo,hw,hcc,⟨o',ho',hdd⟩,hr⟩:=r.cells y' ov hy;exact⟨c,uo,hw,hcc,⟨o',kp _ _ ho' (fC _ hw) (notb _ (inC _ hw)),hdd⟩,hr.mono zi⟩
 ·intro y d hy;obtain⟨c,o,v,hcc,hz,hd,hr⟩:=r.cap y d hy;exact⟨c,o,v,hcc,zi _ _ hz,hd,hr.mono zi⟩
 ·obtain⟨uo,o,ho,hd⟩:=r.ownc c hc;exact⟨uo,o,kp _ _ ho (fC _ hc) (notb _ (inC _ hc)),hd⟩
 ·intro p hp;rcases mem_append.mp hp with hp | hp
  ·exact(r'.mem p hp).out hS
  ·have hm:p.1 ∈ keys rest:=mem_map_of_mem hp;exact(r.mem p (by rw[hmem];exact mem_append_right _ hp)).mono zi fun o e=>kp _ _ e (fR _ hm) (notb _ (frest _ hm))
 ·have nd':=r'.nd;unfold Z0 at nd' ⊢;have e1:keys {B with mem:=B'.mem++rest}.mem=keys B'.mem++keys rest:=map_append;rw[e1];refine nodup_cons.mpr ⟨fun hm=>?_,nodup_append.mpr ⟨n2.1,nodup_append.mpr ⟨(nodup_append.mp (nodup_cons.mp nd').2).2.1,n3.2.1,fun b hb c hc e=>?_⟩,fun b hb c hc e=>?_⟩⟩
  ·rcases mem_append.mp hm with hm | hm
   ·exact n1.1 (mem_append_left _ hm)
   ·rcases mem_append.mp hm with hm | hm
    ·exact notks _ inL fL hm
    ·exact n1.1 (mem_append_right _ (mem_append_right _ hm))
  ·subst e;exact notks _ (frest _ hc) (fR _ hc) hb
  ·subst e;rcases mem_append.mp hc with hc | hc
   ·exact notks _ (inC _ hb) (fC _ hb) hc
   ·exact n2.2.2 b hb b (mem_append_right _ hc) rfl
 ·intro b hb;rcases(ft b).mp hb with rfl | hb | hb | hb
  ·exact ng _ inL fL
  ·exact ng _ (inC _ hb) (fC _ hb)
  ·refine Zb fun o e=>?_;have h1:=zo _ _ e;rw[r'.zfoot b (mem_cons_of_mem _ (mem_append_right _ hb))] at h1;exact nsE h1
  ·exact ng _ (frest _ hb) (fR _ hb)
 ·intro b hb;rcases(ft b).mp hb with rfl | hb | hb | hb
  ·exact r.bfoot _ inL
  ·exact r.bfoot _ (inC _ hb)
  ·exact r'.bfoot b (mem_cons_of_mem _ (mem_append_right _ hb))
  ·exact r.bfoot _ (frest _ hb)
 ·intro b hb
  have kpx:∀ b ∈ Z0 X B,b ∉ keys sub->∃ o,s'.heap.get? b=some o:=fun b hb hs=>by
   obtain⟨o',ho'⟩:=r.ex b hb;exact⟨o',kp _ _ ho' hs (notb _ hb)⟩
  rcases(ft b).mp hb with rfl | hb | hb | hb
  ·exact kpx _ inL fL
  ·exact kpx _ (inC _ hb) (fC _ hb)
  ·exact r'.ex b (mem_cons_of_mem _ (mem_append_right _ hb))
  ·exact kpx _ (frest _ hb) (fR _ hb)
 ·intro b hb;have e1:keys ({B with mem:=B'.mem++rest}:St).mem=keys B'.mem++keys rest:=map_append;rw[e1] at hb;rcases mem_append.mp hb with h | h
  ·exact r'.low b h
  ·exact r.low b (by rw[e2];exact mem_append_right _ h)
 ·have e1:keys {B with mem:=B'.mem++rest}.mem=keys B'.mem++keys rest:=map_append;rw[e1] at hb;rw[e2];rcases mem_append.mp hb with hb | hb
  ·rcases ks b hb with h | h
   ·exact .inl (mem_append_left _ h)
   ·exact .inr h
  ·exact .inl (mem_append_right _ hb)
 ·have hz2:=zo _ _ hz;rcases xznew b o' hz2 with h | h | h
  ·rcases hz₁ b o' h with h | ⟨h,v,hd⟩
   ·exact .inl h
   ·unfold W6 at hz;rw[if_pos h] at hz;exact nsE hz
  ·rcases hf b (mem_cons_of_mem _ (mem_append_right _ h)) with h | h
   ·exact .inr (.inl (by rw[e2];exact mem_append_left _ h))
   ·exact .inr (.inr h)
  ·exact .inr (.inr (gone b h))
theorem Ext.leave{A':Around}{env':Env}{own':List Addr}{B₁:St}{Z₁:ZM}{s₁:Shared}{sub rest:List (Addr × Cell)}(r:Rel X B Z s)(hmem:B.mem=sub++rest)(hk₁:∀ b o,s.heap.get? b=some o->s₁.heap.get? b=some o)
  (hle:Z.le Z₁) (hz₁:∀ a o,Z₁ a=some o->Z a=some o \/ (a ∈ X.own /\ ∃ v,o.data=.cell v)) (hf:∀ b ∈ Z0 {X with A:=A',env:=env',own:=own'} B₁,b ∈ keys sub \/ s.heap.get? b=none)
  (x:Ext {X with A:=A',env:=env',own:=own'} B₁ Z₁ s₁ B' Z' s'):
  Ext X B Z s {B with mem:=B'.mem++rest} (W6 Z' X.own) s' /\ ∀ a o,a ∈ X.own->Z' a=some o->∃ v,o.data=.cell v:=
 Pk r hmem hk₁ hle hz₁ hf x.rel x.le (fun a o e hf ht _=>x.keep a o e hf ht) x.new x.znew
noncomputable def Cx.callee(X:Cx)(fd:FuncData)(L a:Addr):Cx:={X with A:=X.A.deeper (callEnvC fd L a),env:=callEnvC fd L a,own:=(callEnvC fd L a).cells.map (·.2)}
noncomputable def Xy(ps:List Str)(ds:List V):List (Str × Option V)->Prop
 | []=>True
 | (_,none)::r=>Xy ps ds r
 | (x,some d)::r=>(ps.zip ds).lookup x=some d /\ Xy ps ds r
noncomputable def W1(names:List (Str × NameKind))(ps ln cn:List Str):Bool:=
 decide ln.Nodup && decide cn.Nodup && decide ps.Nodup && decide (names.map (·.1)).Nodup &&
 ln.all (fun x=>names.lookup x == some .local) && cn.all (fun x=>names.lookup x == some .cell) &&
 (ln++cn).all (fun x=>!(x == ("__debug__" :Str)) && !(x == ("__classdict__" :Str))) &&
 ps.all (fun x=>names.lookup x == some .local || names.lookup x == some .cell)
theorem T3{names:List (Str × NameKind)}{ps ln cn:List Str}(hok:W1 names ps ln cn=true):(((((((ln.Nodup /\ cn.Nodup) /\ ps.Nodup) /\ (names.map (·.1)).Nodup) /\ ∀ x ∈ ln,names.lookup x=some .local) /\ ∀ x ∈ cn,names.lookup x=some .cell) /\ ∀ x ∈ ln++cn,(x == ("__debug__" :Str))=false /\ (x == ("__classdict__" :Str))=false) /\ ∀ x ∈ ps,names.lookup x=some .local \/ names.lookup x=some .cell):=by
 simpa only [W1,and_eq_true,decide_eq_true_eq,all_eq_true,beq_iff_eq,or_eq_true,Bool.not_eq_true'] using hok
noncomputable def N3:Fl->V
 | .ret d=>d
 | _=>.none
theorem X2{prog w}{Z:ZM}:∀ {ps:List Str} {ds:List V} {vs:List Value} {x:Str} {d:V},VsRel prog w Z ds vs->(ps.zip ds).lookup x=some d->∃ v,(ps.zip vs).lookup x=some v /\ VRel prog w Z d v
 | [],_,_,_,_,_,h=>by contradiction
 | p::ps,[],_,_,_,_,h=>by contradiction
 | p::ps,d'::ds,_,x,d,⟨v,r,e,hr,hq⟩,h=>by
  subst e;rw[zip_cons_cons,lookup_cons] at h ⊢;split at h
  ·rename_i e;cases h;exact⟨v,by simp[e],hr⟩
  ·rename_i e;obtain⟨u,hu,hr'⟩:=X2 hq h;exact⟨u,by assumption,hr'⟩
theorem Si{k:Str->Option NameKind}{x:Str}(hx:k x=some .local):∀ (l:List (Str × Value)) (m:Str->Option Value) (v:Value),(l.map (·.1)).Nodup->l.lookup x=some v->bindL k l m x=some v
 | [],m,v,_,h=>by contradiction
 | (n,u)::r,m,v,nd,h=>by
  simp only[map_cons,nodup_cons] at nd;unfold bindL;rw[lookup_cons] at h
  have rest:∀ (r:List (Str × Value)) (m:Str->Option Value),x ∉ r.map (·.1)->bindL k r m x=m x:=by
   intro r
   induction r with
   | nil=>intro m _;rfl
   | cons p r ih=>
    intro m hn;obtain⟨n',u'⟩:=p;simp only[map_cons,mem_cons,not_or] at hn;unfold bindL;rw[ih _ hn.2];split
    ·exact if_neg hn.1
    ·rfl
  split at h
  ·rename_i e;cases h;cases beq_iff_eq.mp e;rw[rest r _ nd.1,if_pos hx];exact if_pos rfl
  ·exact Si hx r _ v nd.2 h
theorem Sj{k:Str->Option NameKind}{x:Str}(hx:k x=some .cell):∀ (l:List (Str × Value)) (m:Str->Option Value) (v:Value),(l.map (·.1)).Nodup->l.lookup x=some v->bindC k l m x=some v
 | [],m,v,_,h=>by contradiction
 | (n,u)::r,m,v,nd,h=>by
  simp only[map_cons,nodup_cons] at nd;unfold bindC;rw[lookup_cons] at h
  have rest:∀ (r:List (Str × Value)) (m:Str->Option Value),x ∉ r.map (·.1)->bindC k r m x=m x:=by
   intro r
   induction r with
   | nil=>intro m _;rfl
   | cons p r ih=>
    intro m hn;obtain⟨n',u'⟩:=p;simp only[map_cons,mem_cons,not_or] at hn;unfold bindC;rw[ih _ hn.2];split
    ·rfl
    ·exact if_neg hn.1
  split at h
  ·rename_i e;cases h;cases beq_iff_eq.mp e;rw[rest r _ nd.1,if_neg (by rw[hx];exact fun h=>nomatch h)];exact if_pos rfl
  ·exact Sj hx r _ v nd.2 h
theorem X1{ps:List Str}{ds:List V}:∀ {l:List (Str × Option V)},Xy ps ds l->∀ {x:Str} {d:V},(x,some d) ∈ l->(ps.zip ds).lookup x=some d
 | [],_,_,_,h=>by exact mnE h
 | (_,none)::r,h,x,d,hm=>by
  rcases mem_cons.mp hm with e | hm
  ·exact(nomatch e)
  ·exact X1 (l:=r) h hm
 | (_,some _)::r,h,x,d,hm=>by
  rcases mem_cons.mp hm with e | hm
  ·cases e;exact h.1
  ·exact X1 (l:=r) h.2 hm
theorem Yd{names:List (Str × NameKind)}{x:Str}{n:Nat}(h:names.lookup x=some .cell):((cellsFrom n names []).lookup x).isSome=true:=cellsFrom_some names n [] (.inl h)
theorem Wp{names:List (Str × NameKind)}{n:Nat}(hnn:(names.map (·.1)).Nodup):((cellsFrom n names []).map (·.1)).Nodup:=by
 have:∀ (names:List (Str × NameKind)) (n:Nat) (acc:List (Str × Addr)),(names.map (·.1)).Nodup->(acc.map (·.1)).Nodup->(∀ x ∈ acc.map (·.1),x ∉ names.map (·.1))->((cellsFrom n names acc).map (·.1)).Nodup:=by
  intro names
  induction names with
  | nil=>intro n acc _ h _;exact h
  | cons p names ih=>
   intro n acc h1 h2 h3;obtain⟨nm,kd⟩:=p;simp only[map_cons,nodup_cons] at h1;unfold cellsFrom;split
   ·refine ih _ _ h1.2 ?_ ?_
    ·simp only[map_cons,nodup_cons];exact⟨fun hx=>h3 _ hx (by exact mem_cons_self),h2⟩
    ·intro x hx;rcases mem_cons.mp hx with rfl | hx
     ·exact h1.1
     ·exact fun hy=>h3 x hx (mem_cons_of_mem _ hy)
   ·exact ih _ _ h1.2 h2 fun x hx hy=>h3 x hx (mem_cons_of_mem _ hy)
 exact this _ _ _ hnn nodup_nil (fun _ h=>by exact mnE h)
theorem Yu{l:List (Str × Addr)}{x:Str}{c:Addr}(h:l.lookup x=some c):(x,c) ∈ l:=by
 induction l with
 | nil=>exact nsE h
 | cons p l ih=>
  obtain⟨y,a⟩:=p;rw[lookup_cons] at h;split at h
  ·rename_i e;cases h;rw[beq_iff_eq.mp e];exact .head _
  ·exact .tail _ (ih h)
theorem Uu{l:List (Str × Addr)}(h:l.Pairwise fun x y=>x.2 ≠ y.2){x y:Str}{c:Addr}(hx:l.lookup x=some c)(hy:l.lookup y=some c):x=y:=name_of_addr h (Yu hx) (Yu hy)
theorem Rel.codeRec(r:Rel X B Z s){cd:Value}{q:Str}(hlim:X.base.NoLimit)(h:X.base.CodeRec cd q):s.heap.CodeRec cd q:=by
 obtain⟨c,oc,ws,t,e1,e2,e3,e4⟩:=h
 by_cases hz:oc.cls=.none
 ·rcases r.old.old c oc e2 with x | ⟨_,_,vs',more,hv',x⟩ | ⟨hcs,_,_,_⟩
  ·exact⟨c,oc,ws,t,e1,x,e3,e4⟩
  ·rw[e3] at hv';cases hv';refine⟨c,_,_,t,e1,x,rfl,?_⟩;rw[Array.getElem?_append_left (by have:=Array.getElem?_eq_some_iff.mp e4;exact this.1)];exact e4
  ·subst hcs;obtain⟨mc,⟨o2,es2,ep2,h2,h3,_⟩,_⟩:=hlim;rw[e2] at h2;cases h2;rw[e3] at h3;exact(nomatch h3)
 ·exact⟨c,oc,ws,t,e1,r.base e2 hz,e3,e4⟩
noncomputable def CALLR(X:Cx)(f:Value)(ds:List V)(B:St)(P:V->St->Prop):Prop:=
 ∀ Z s vs (R:Result->Shared->Prop),Rel X B Z s->VsRel X.prog X.w Z ds vs->(∀ v s',Post X (RV X) B Z s P v s'->R (.ok (.ret v)) s')->codeAny (model X.prog X.w) X.A (.call f ⟨vs,[]⟩) R s
theorem CALLR.call{f:Value}{ds:List V}(h:CALLR X f ds B P):CALL X f ds B P:=fun Z s vs r hv=>wpAny_call (h Z s vs _ r hv fun _ _ q=>q)
theorem CALLR.core{a:Addr}{o:Obj}{fd:FuncData}{body:List Stmt}{k:Nat}{ps:List Str}{ds:List V}{loc cel:List (Str × Option V)}{sub rest:List (Addr × Cell)}
  (hA:Rm X.A (k + 1)) (hlim:X.base.NoLimit) (ho:X.base.get? a=some o) (hc:o.cls ≠ .none) (hd:o.data=.func fd) (hbody:fd.body=.stmts body) (hclo:fd.closure=[]) (hcd:X.base.CodeRec fd.code fd.qualname)
  (hbind:∀ vs:List Value,vs.length=ds.length->bindArgs fd ⟨vs,[]⟩=pure (ps.zip vs)) (hlen:ps.length=ds.length)
  (hok:W1 fd.scope.names ps (loc.map (·.1)) (cel.map (·.1))=true) (hl:Xy ps ds loc) (hcl:Xy ps ds cel) (hmem:B.mem=sub++rest)
  {Z:ZM} {s:Shared} {vs:List Value} {R:Result->Shared->Prop} (r:Rel X B Z s) (hvs:VsRel X.prog X.w Z ds vs)
  (go:∀ L h₁ tk,s.heap.objs.size=L->(∀ b o,s.heap.get? b=some o->h₁.get? b=some o)->(∀ b,L ≤ b->s.heap.get? b=none)->(∀ b ∈ Z0 (X.callee fd L a) ⟨loc,cel,[],sub⟩,b ∈ keys sub \/ L ≤ b)->Rel (X.callee fd L a) ⟨loc,cel,[],sub⟩ Z {s with heap:=h₁,toks:=tk}->
   wpAny (model X.prog X.w) (X.callee fd L a).A (execs body (X.callee fd L a).env) (fun f s'=>R (.ok (.ret (match f with | .ret v=>v | _=>.none))) s') Zm {s with heap:=h₁,toks:=tk})
  (hco:fd.scope.isCoroutine=false:=by rfl) (hgen:fd.scope.isGenerator=false:=by rfl) (hk:fd.scope.kind=.function:=by rfl):codeAny (model X.prog X.w) X.A (.call (.ref a) ⟨vs,[]⟩) R s:=by
 have hkeep:=r.base ho hc;obtain⟨⟨⟨⟨⟨⟨⟨hln,hcn⟩,hpn⟩,hnn⟩,hlk⟩,hck⟩,hdb⟩,hpk⟩:=T3 hok;have hvl:ps.length=vs.length:=by rw[hlen,hvs.length]
 have hzn:((ps.zip vs).map (·.1))=ps:=map_fst_zip (le_of_eq hvl);refine codeAny_call_cells hA.room hkeep hd (r.nolim hlim) (r.codeRec hlim hcd) hbody (hbind vs hvs.length) hclo (fun x hx=>?_) (fun s₁ y=>?_) hco hgen hk
 ·have:x.1 ∈ ps:=by rw[<- hzn];exact mem_map_of_mem hx
  rcases hpk _ this with h1 | h1
  ·exact .inl h1
  ·exact .inr ⟨h1,Yd h1⟩
 ·obtain⟨h₁,tk,rfl,hk₁⟩:=y.done;generalize hL:s.heap.objs.size=L at *;have ltL:∀ b o,s.heap.get? b=some o->b < L:=fun b o e=>hL ▸ lt_size e
  have ab:∀ b ∈ (callEnvC fd L a).cells.map (·.2),L < b:=fun b hb=>by
   obtain⟨p,hp,rfl⟩:=mem_map.mp hb;exact y.above p.1 p.2 hp
  have cnames:((callEnvC fd L a).cells.map (·.1)).Nodup:=Wp hnn;have fsub:∀ b ∈ keys sub,b ∈ Z0 X B:=fun b hb=>by delta Z0 keys;rw[hmem];simp only[map_append,mem_cons,mem_append];exact .inr (.inr (.inl hb))
  have Zt:∀ b,L ≤ b->s.heap.get? b=none:=fun b hb=>by
   refine Zb fun o' e=>?_;exact absurd (ltL _ _ e) (not_lt.mpr hb)
  have ftc:∀ b ∈ Z0 (X.callee fd L a) ⟨loc,cel,[],sub⟩,b ∈ keys sub \/ L ≤ b:=fun b hb=>by
   rcases mem_cons.mp hb with e0 | hb
   ·have e0:b=L:=e0;exact .inr (le_of_eq e0.symm)
   ·rcases mem_append.mp hb with hb | hb
    ·exact .inr (le_of_lt (ab _ hb))
    ·exact .inl hb
  have r₁:Rel (X.callee fd L a) ⟨loc,cel,[],sub⟩ Z {s with heap:=h₁,toks:=tk}:=by
   refine⟨⟨hln,fun p hp=>hlk _ (mem_map_of_mem hp),fun p hp=>hck _ (mem_map_of_mem hp),hcn,fun x y' c _ _ h1 h2=>Uu y.apart h1 h2,(fun p hp=>by exact mnE hp),(fun x hx=>hdb x (by simpa using hx)),hk⟩,fun b o e=>hk₁ _ _ (r.zin b o e),r.st,r.ztab,r.old.step_keeps hk₁,r.os,r.gens,
    ⟨_,y.toInCall.ns,fun x ov hx=>?_⟩,fun x ov hx=>?_,(fun _ _ h=>by exact mnE h),(fun c hc=>by obtain⟨p,hp,rfl⟩:=mem_map.mp hc;exact⟨_,y.cell p.1 p.2 (lookup_of_mem_nodup cnames hp)⟩),fun p hp=>(r.mem p (by rw[hmem];exact mem_append_left _ hp)).mono (fun _ _ e=>e) fun o e=>hk₁ _ _ e,?_,?_,?_,?_,r.g3,fun b hb=>r.low b (by delta keys;rw[hmem,map_append];exact mem_append_left _ hb)⟩
   ·cases ov with
    | none=>trivial
    | some d=>
     obtain⟨v,hv,hr⟩:=X2 hvs (X1 hl hx);exact⟨v,Si (hlk _ (mem_map_of_mem (f:=(·.1)) hx)) _ _ _ (by rw[hzn];exact hpn) hv,hr⟩
   ·have hkx:(callEnvC fd L a).kindOf x=some .cell:=hck _ (mem_map_of_mem (f:=(·.1)) hx);have:=Yd (n:=L + 1) hkx;obtain⟨c,hcc⟩:=Option.isSome_iff_exists.mp this;refine⟨c,_,mem_map.mpr ⟨(x,c),Yu hcc,rfl⟩,hcc,y.cell x c hcc,?_⟩;cases ov with
    | none=>trivial
    | some d=>
     obtain⟨v,hv,hr⟩:=X2 hvs (X1 hcl hx);exact⟨v,Sj hkx _ _ _ (by rw[hzn];exact hpn) hv,hr⟩
   ·show(L::((callEnvC fd L a).cells.map (·.2)++keys sub)).Nodup;refine nodup_cons.mpr ⟨fun hm=>?_,nodup_append.mpr ⟨?_,?_,fun b hb c hc e=>?_⟩⟩
    ·rcases mem_append.mp hm with hm | hm
     ·exact lt_irrefl _ (ab _ hm)
     ·obtain⟨o',ho'⟩:=r.ex _ (fsub _ hm);exact lt_irrefl _ (ltL _ _ ho')
    ·have:=y.apart;rw[List.Nodup,pairwise_map];exact this
    ·have nd:=r.nd;unfold Z0 at nd;rw[hmem,keys,map_append] at nd;exact(nodup_append.mp (nodup_append.mp (nodup_cons.mp nd).2).2.1).1
    ·subst e;obtain⟨o',ho'⟩:=r.ex _ (fsub _ hc);exact lt_irrefl _ (lt_trans (ltL _ _ ho') (ab _ hb))
   ·intro b hb;rcases ftc b hb with hb | hb
    ·exact r.zfoot b (fsub _ hb)
    ·refine Zb fun o' e=>?_;have:=r.zin _ _ e;rw[Zt b hb] at this;exact nsE this
   ·intro b hb;rcases ftc b hb with hb | hb
    ·exact r.bfoot b (fsub _ hb)
    ·cases e:X.base.get? b with
     | none=>exact e
     | some o'=>obtain⟨o2,h2⟩:=r.old.there _ _ e;rw[Zt b hb] at h2;exact nsE h2
   ·intro b hb;rcases mem_cons.mp hb with e0 | hb
    ·have e0:b=L:=e0;obtain⟨o',_,_,ho',_⟩:=y.toInCall.ns;exact⟨o',by rw[e0];exact ho'⟩
    ·rcases mem_append.mp hb with hb | hb
     ·obtain⟨p,hp,rfl⟩:=mem_map.mp hb;obtain⟨o',ho',_⟩:=y.cell p.1 p.2 (lookup_of_mem_nodup cnames hp);exact⟨o',ho'⟩
     ·obtain⟨o',ho'⟩:=r.ex b (fsub _ hb);exact⟨o',hk₁ _ _ ho'⟩
  exact wpAny_mono (go L h₁ tk rfl hk₁ Zt ftc r₁) (fun _ _ q=>q) fun _ _ h=>h.elim
theorem CALLR.out{Y:Cx}{Z':ZM}{f:Flow}{f':Fl}(hS:∀ a o,a ∈ X.own->Z' a=some o->∃ v,o.data=.cell v)(hf:RFl Y Z' f' f)(hp:Y.prog=X.prog)(hw:Y.w=X.w):RV X (W6 Z' X.own) (N3 f') (match (generalizing:=false) f with | .ret v=>v | _=>.none):=by
 cases f' with
 | next=>cases hf;exact Xd
 | brk=>cases hf;exact Xd
 | cont=>cases hf;exact Xd
 | ret d=>obtain⟨v,rfl,hv⟩:=hf;rw[hp,hw] at hv;exact VRel.out hS hv
theorem CALLR.def{a:Addr}{o:Obj}{fd:FuncData}{body:List Stmt}{k:Nat}{ps:List Str}{ds:List V}{loc cel:List (Str × Option V)}{sub rest:List (Addr × Cell)}
  (hA:Rm X.A (k + 1)) (hlim:X.base.NoLimit) (ho:X.base.get? a=some o) (hc:o.cls ≠ .none) (hd:o.data=.func fd) (hbody:fd.body=.stmts body) (hclo:fd.closure=[]) (hcd:X.base.CodeRec fd.code fd.qualname)
  (hbind:∀ vs:List Value,vs.length=ds.length->bindArgs fd ⟨vs,[]⟩=pure (ps.zip vs)) (hlen:ps.length=ds.length)
  (hok:W1 fd.scope.names ps (loc.map (·.1)) (cel.map (·.1))=true) (hl:Xy ps ds loc) (hcl:Xy ps ds cel) (hmem:B.mem=sub++rest)
  (h:∀ L,EX (X.callee fd L a) body ⟨loc,cel,[],sub⟩ fun f B'=>P (N3 f) {B with mem:=B'.mem++rest})
  (hco:fd.scope.isCoroutine=false:=by rfl) (hgen:fd.scope.isGenerator=false:=by rfl) (hk:fd.scope.kind=.function:=by rfl):CALLR X (.ref a) ds B P:=fun Z s vs R r hvs hR=>by
 refine CALLR.core hA hlim ho hc hd hbody hclo hcd hbind hlen hok hl hcl hmem r hvs (fun L h₁ tk hL hk₁ Zt ftc r₁=>?_) hco hgen hk;refine wpAny_mono (h L Z _ r₁) (fun f s' q=>?_) fun _ _ h=>h.elim;obtain⟨Z',B',f',x,hf,hP⟩:=q;obtain⟨x2,hS⟩:=Ext.leave (X:=X) (A':=(X.callee fd L a).A) (env':=(X.callee fd L a).env) (own':=(X.callee fd L a).own) r hmem hk₁ (fun _ _ h=>h) (fun a o h=>.inl h) (fun b hb=>(ftc b hb).imp id (Zt b)) x;exact hR _ _ (here x2 (CALLR.out (Y:=X.callee fd L a) hS hf rfl rfl) hP)
noncomputable def ASs(X:Cx):List PySem.Expr->List V->St->(St->Prop)->Prop
 | [],[],B,Q=>Q B
 | t::ts,d::ds,B,Q=>AS X t d B fun B'=>ASs X ts ds B' Q
 | _,_,_,_=>False
theorem ASs.nil{Q:St->Prop}(h:Q B):ASs X [] [] B Q:=h
theorem ASs.cons{t ts d ds}{Q:St->Prop}(h:AS X t d B fun B'=>ASs X ts ds B' Q):ASs X (t::ts) (d::ds) B Q:=h
theorem ASs.run{Q:St->Prop}:∀ {ts:List PySem.Expr} {ds:List V} {vs:List Value} {B' Z' s'},ASs X ts ds B' Q->Ext X B Z s B' Z' s'->VsRel X.prog X.w Z' ds vs->
  wpAny (model X.prog X.w) X.A (assignInOrder (ts.map fun t=>assign t X.env) vs) (Post X (REq (α:=Unit)) B Z s fun _ B''=>Q B'') Zm s'
 | [],[],_,_,_,_,h,x,hr=>by cases hr;exact wpAny_pure (here (b:=()) x rfl h)
 | [],_::_,_,_,_,_,h,_,_=>h.elim
 | _::_,[],_,_,_,_,h,_,_=>h.elim
 | t::ts,d::ds,_,B',Z',s',h,x,⟨v,r,e,hv,hq⟩=>by
  subst e;refine wpAny_assignInOrder_more (wpAny_mono (h Z' s' v x.rel hv) (fun _ s2 q=>?_) fun _ _ h=>h);obtain⟨Z2,B2,b,x2,_,h2⟩:=q;exact ASs.run h2 (x.trans x2) (hq.mono x2.le)
theorem Ext.extBut(r:Rel X B Z s){h':Heap}(hx:Heap.ExtBut s.heap.objs.size s.heap h'):Ext X B Z s B Z {s with heap:=h'}:=
 (Ext.keepAll r (tk:=s.toks) fun b o e=>hx b o (ne_of_lt (lt_size e)) e:Ext X B Z s B Z {s with heap:=h',toks:=s.toks})
theorem AS.tup{elts kd pos ds}{Q:St->Prop}(hA:X.A.handled=none)(h:ASs X elts ds B Q)(hlen:elts.length=ds.length)
  (he:∀ env,(assignEach elts env).map (·.2)=elts.map fun t=>assign t env) (hst:∀ env,(assignEach elts env).findIdx? (·.1)=none):AS X (.Tuple elts kd pos) (.tup ds) B Q:=fun Z s v r hv=>by
 obtain⟨a,its,n,rfl,ha,hr⟩:=hv
 haveI ht:s.heap.IsTuple a its:=⟨_,r.zin _ _ ha,rfl,n,rfl⟩
 haveI hsz:its.size=ds.length:=by rw[<- hr.length];simp
 refine wpAny_assign_Tuple hA ht ?_ (hst _) fun h' hx=>?_
 ·haveI:=congrArg List.length (he X.env)
  simp only[length_map] at this;rw[this,hlen,hsz]
 ·rw[he];exact ASs.run h (Ext.extBut r hx) hr
noncomputable def SNs(X:Cx):List Str->List V->St->(St->Prop)->Prop
 | [],[],B,Q=>Q B
 | t::ts,d::ds,B,Q=>SN X t d B fun B'=>SNs X ts ds B' Q
 | _,_,_,_=>False
theorem SNs.nil{Q:St->Prop}(h:Q B):SNs X [] [] B Q:=h
theorem SNs.cons{t ts d ds}{Q:St->Prop}(h:SN X t d B fun B'=>SNs X ts ds B' Q):SNs X (t::ts) (d::ds) B Q:=h
theorem SNs.run{Q:St->Prop}:∀ {ts:List Str} {ds:List V} {vs:List Value} {B' Z' s'},SNs X ts ds B' Q->Ext X B Z s B' Z' s'->VsRel X.prog X.w Z' ds vs->
  wpAny (model X.prog X.w) X.A (assignInOrder (ts.map fun t=>bindName X.env t) vs) (Post X (REq (α:=Unit)) B Z s fun _ B''=>Q B'') Zm s'
 | [],[],_,_,_,_,h,x,hr=>by cases hr;exact wpAny_pure (here (b:=()) x rfl h)
 | [],_::_,_,_,_,_,h,_,_=>h.elim
 | _::_,[],_,_,_,_,h,_,_=>h.elim
 | t::ts,d::ds,_,B',Z',s',h,x,⟨v,r,e,hv,hq⟩=>by
  subst e;refine wpAny_assignInOrder_more (wpAny_bindName (wpAny_mono (h Z' s' v x.rel hv) (fun _ s2 q=>?_) fun _ _ h=>h));obtain⟨Z2,B2,b,x2,_,h2⟩:=q;exact SNs.run h2 (x.trans x2) (hq.mono x2.le)
theorem VsRel.reverse{prog w Z}:∀ {ds:List V} {vs:List Value},VsRel prog w Z ds vs->VsRel prog w Z ds.reverse vs.reverse
 | [],_,h=>by cases h;rfl
 | d::ds,_,⟨v,r,e,h,q⟩=>by
  subst e;rw[reverse_cons,reverse_cons];exact(VsRel.reverse q).append ⟨v,[],rfl,h,rfl⟩
theorem ES.asgSw{ts:List PySem.Expr}{kd value pos tp}{names:List Str}{Q:Fl->St->Prop}(hA:X.A.handled=none)(h:EV X value B fun d B1=>∃ ds,d=.tup ds /\ ds.length=names.length /\ SNs X names.reverse ds.reverse B1 (Q .next))
  (hs:swapsWithSole [.Tuple ts kd tp] value pos.line X.env=pure false) (hw:swappedStores [.Tuple ts kd tp] value X.env=pure (some names)):ES X (.Assign [.Tuple ts kd tp] value pos) B Q:=fun Z s r=>by
 rw[arm_exec_Assign,hs,hw];refine wpAny_bind (wpAny_standAt (wpAny_bind (wpAny_pure ?_)));simp only[false_eq_true,if_false];refine wpAny_bind (J.use h r fun Z1 s1 B1 d v x1 r1 h1=>wpAny_bind (wpAny_pure ?_));obtain⟨ds,rfl,hlen,h2⟩:=h1;obtain⟨a,its,n,rfl,ha,hr⟩:=r1
 haveI ht:s1.heap.IsTuple a its:=⟨_,x1.rel.zin _ _ ha,rfl,n,rfl⟩
 haveI hsz:its.size=names.length:=by rw[<- hlen,<- hr.length];simp
 refine wpAny_bind (wpAny_rule (wpAny_bind ?_));rw[<- hsz];refine wpAny_unpackItems_tuple hA ht fun h' hx=>?_
 haveI x2:=Ext.extBut x1.rel hx
 refine wpAny_bind (wpAny_mono (SNs.run h2 (x1.trans x2) hr.reverse) (fun _ s3 q=>?_) fun _ _ h=>h);obtain⟨Z3,B3,b,x3,_,h3⟩:=q;exact wpAny_pure (here x3 Zz h3)
noncomputable def SETI(X:Cx)(o i d:V)(B:St)(Q:St->Prop):Prop:=
 ∀ Z s vo vi v,Rel X B Z s->VRel X.prog X.w Z o vo->VRel X.prog X.w Z i vi->VRel X.prog X.w Z d v->wpAny (model X.prog X.w) X.A (setItem vo vi v) (Post X (REq (α:=Unit)) B Z s fun _ B'=>Q B') Zm s
noncomputable abbrev pSe3(X:Cx)(Q:St->Prop)(d od id:V)(B:St):Prop:=SETI X od id d B Q
noncomputable abbrev pSe2(X:Cx)(i:PySem.Expr)(Q:St->Prop)(d od:V)(B:St):Prop:=EV X i B (pSe3 X Q d od)
noncomputable abbrev pSe(X:Cx)(o i:PySem.Expr)(Q:St->Prop)(d:V)(B:St):Prop:=EV X o B (pSe2 X i Q d)
theorem ES.asgSub{o i p value pos}{Q:Fl->St->Prop}(h:EV X value B (pSe X o i (Q .next)))
  (hs:swapsWith value (some (.Subscript o i p)) pos.line X.env=pure false):ES X (.Assign [.Subscript o i p] value pos) B Q:=fun Z s r=>
 wpAny_Assign_Subscript (J.use h r fun Z1 s1 B1 d v x1 r1 h1=>J.use h1 x1.rel fun Z2 s2 B2 od ov x2 r2 h2=>J.use h2 x2.rel fun Z3 s3 B3 id iv x3 r3 h3=>
  wpAny_mono (h3 Z3 s3 ov iv v x3.rel (r2.mono x3.le) r3 (r1.mono fun a o e=>x3.le a o (x2.le a o e))) (fun _ s4 q=>by
   obtain⟨Z4,B4,b,x4,_,h4⟩:=q
   exact here (((x1.trans x2).trans x3).trans x4) Zz h4) fun _ _ h=>h) hs
theorem VsRel.set{prog w Z}{d:V}{v:Value}(hd:VRel prog w Z d v):∀ {l:List V} {vs:List Value} (i:Nat),VsRel prog w Z l vs->VsRel prog w Z (l.set i d) (vs.set i v)
 | [],_,_,h=>by cases h;rfl
 | x::l,_,0,⟨u,r,e,h,q⟩=>by subst e;exact⟨v,r,rfl,hd,q⟩
 | x::l,_,i + 1,⟨u,r,e,h,q⟩=>by subst e;exact⟨u,_,rfl,h,VsRel.set hd i q⟩
theorem PlainList.upd{h:Heap}{a:Addr}{its:Array Value}(hp:h.PlainList a its)(f:Array Value->Array Value):(h.update a (Obj.mapSeq f)).PlainList a (f its) /\ Heap.SameBut a h (h.update a (Obj.mapSeq f)):=by
 obtain⟨n,e⟩:=hp;refine⟨?_,Heap.SameBut.update ..⟩;exact⟨_,get?_update_self _ e rfl⟩
theorem SETI.list{a:Addr}{l:List V}{k:Int}{d:V}{Q:St->Prop}{mem'}(hm:(a,Cell.list l) ∈ B.mem)(hk:0 ≤ k /\ k < l.length)(hf:k < 2 ^ 63)(hu:UpM a (.list (l.set k.toNat d)) B.mem mem')(h:Q {B with mem:=mem'}):
  SETI X (.ref a) (.int k) d B Q:=fun Z s vo vi v r ho hi hv=>by
 cases ho;obtain⟨t,rfl⟩:=hi;obtain⟨its,hp,hr⟩:=r.mem _ hm
 haveI hsz:its.size=l.length:=by rw[<- hr.length];simp
 obtain⟨n,e⟩:=id hp;refine ki_setAt (n:=n) e hk.1 hf (by rw[hsz];exact hk.2) ?_;obtain⟨hp',hs⟩:=PlainList.upd hp (·.setIfInBounds k.toNat v);exact here (b:=()) (r.setMem hu hs ⟨_,hp',by simpa using VsRel.set hv k.toNat hr⟩) rfl h
end
section
variable{X:Cx}{target:PySem.Expr}{B B':St}{Z Z':ZM}{s s':Shared}{P:V->St->Prop}
structure Iter(X:Cx)(target:PySem.Expr)(Z₀:ZM)(I:Addr)(its:List V)(St:Nat->Heap->Prop):Prop where
 frame:∀ i h h',St i h->(∀ a o,(a=I \/ Z₀ a=some o)->h.get? a=some o->h'.get? a=some o)->St i h'
 item:∀ i (s:Shared) (Z:ZM) (Q:Value->Shared->Prop),i < its.length->St i s.heap->Z₀.le Z->(∀ a o,Z a=some o->s.heap.get? a=some o)->Z I=none->
  (∀ v h' tk Z' d,its[i]?=some d->VRel X.prog X.w Z' d v->Z.le Z'->(∀ a o,Z' a=some o->h'.get? a=some o)->(∀ a o,Z' a=some o->Z a=some o \/ s.heap.get? a=none)->St (i + 1) h'->(∀ a o,a ≠ I->s.heap.get? a=some o->h'.get? a=some o)->(∃ o,h'.get? I=some o)->Q v {s with heap:=h',toks:=tk})->
  wpAny (model X.prog X.w) X.A (pyNext (.ref I)) (fun r s₁=>∃ v,r=some v /\ wpAny (model X.prog X.w) X.A (letOwnedTupleGo target (.ref I) v) (fun _ s₂=>Q v s₂) Zm s₁) Zm s
 done:∀ (s:Shared) (Q:Shared->Prop),St its.length s.heap->(∀ h' tk,(∀ a o,a ≠ I->s.heap.get? a=some o->h'.get? a=some o)->Q {s with heap:=h',toks:=tk})->
  wpAny (model X.prog X.w) X.A (pyNext (.ref I)) (fun r s₁=>r=none /\ Q s₁) Zm s
noncomputable def ITER(X:Cx)(target:PySem.Expr)(B:St)(d:V)(its:List V):Prop:=∀ Z s v (Q:Value->Shared->Prop),Rel X B Z s->VRel X.prog X.w Z d v->
 (∀ o St,o.isFreed=false->Iter X target Z s.heap.objs.size its St->St 0 (s.heap.push o)->Q (.ref s.heap.objs.size) {s with heap:=s.heap.push o})->wpAny (model X.prog X.w) X.A (pyIter v) Q Zm s
set_option tactic.hygienic true in
theorem X7{M:Model}{A:Around}{target:PySem.Expr}{I:Addr}{v:Value}{s:Shared}{Q:Unit->Shared->Prop}{o:Obj}(ho:s.heap.get? I=some o)(hc:∀ n,o.cls=.type n->["enumerate", "zip", "dict_itemiterator", "dict_reverseitemiterator", "odict_iterator", "itertools.zip_longest", "itertools.pairwise"].contains n=false)
  (h:Q () s):wpAny M A (letOwnedTupleGo target (.ref I) v) Q Zm s:=by
 have key:wpAny M A (do
   let (.ref r,.ref a):=(Value.ref I,v) | return
   let o <- load r
   match o.cls,o.data with
   | .type n,.fields vs=>
    if ["enumerate", "zip", "dict_itemiterator", "dict_reverseitemiterator", "odict_iterator", "itertools.zip_longest", "itertools.pairwise"].contains n && vs[0]? == some (rawInt a) then
     rule "for.unpacks-the-owned-tuple"
     updateField r 0 .none
   | _,_=>pure ()) Q Zm s:=by
  cases v <;> try exact wpAny_pure h
  refine wpAny_bind (wpAny_load ho ?_);obtain⟨cls,o2,data,o4⟩:=o;cases cls <;> try exact wpAny_pure h
  cases data <;> try exact wpAny_pure h
  dsimp only;rw[hc _ rfl];exact wpAny_pure h
 cases target with
 | Tuple a b c=>exact key
 | List a b=>exact key
 | _=>exact wpAny_pure h
theorem U7{Z Z₀:ZM}(hle:Z₀.le Z)(hz:∀ a o,Z a=some o->s.heap.get? a=some o){a I:Addr}{o:Obj}(h:Z₀ a=some o)(hI:Z I=none):a ≠ I:=fun e=>by
 rw[<- e,hle _ _ h] at hI;exact snE hI
theorem Iter.ofList{Z₀:ZM}{I l:Addr}{its:List V}{vs:Array Value}{n:Nat}(hA:X.A.handled=none)(hl:Z₀ l=some {cls:=.type "list",data:=.seq vs n})(hr:VsRel X.prog X.w Z₀ its vs.toList):
  Iter X target Z₀ I its (fun i h=>h.IsListIter I l i /\ h.get? l=some {cls:=.type "list",data:=.seq vs n}) where
 frame:=fun i h h' st k=>⟨by obtain⟨o,ho,q⟩:=st.1;exact⟨o,k I o (.inl rfl) ho,q⟩,k l _ (.inr hl) st.2⟩
 item:=fun i s Z Q hi st hle hz hI k=>by
  have hne:=U7 hle hz hl hI;have hsz:vs.size=its.length:=by rw[<- hr.length];simp
  have hiv:i < vs.size:=by exact(lt_of_lt_of_le hi (le_of_eq hsz.symm))
  refine wpAny_pyNext_list_item st.1 ⟨_,st.2,rfl,n,rfl⟩ (x:=vs[i]) (by simp[hiv]) fun h' hit' hs'=>?_;refine⟨_,rfl,?_⟩;obtain⟨v,hv,hrv⟩:=hr.get (i:=i) (d:=its[i]) (by exact getElem?_eq_getElem ..);have hv':vs[i]=v:=by exact Py (by assumption) (hv)
  obtain⟨o,ho,hc,hd⟩:=id hit';refine X7 ho (fun n e=>by rw[hc] at e;cases e;decide) ?_;exact k _ h' s.toks Z its[i] (by exact getElem?_eq_getElem ..) (hv' ▸ hrv.mono hle) (fun _ _ h=>h) (fun a o' e=>(hs'.2 a (fun h=>by rw[h,hI] at e;exact nsE e)).trans (hz a o' e)) (fun a o' e=>.inl e) ⟨hit',(hs'.2 l hne).trans st.2⟩ (fun a o' hb e=>(hs'.2 a hb).trans e) ⟨o,ho⟩
 done:=fun s Q st k=>by
  have hsz:vs.size=its.length:=by rw[<- hr.length];simp
  refine wpAny_pyNext_list_end hA st.1 ⟨_,st.2,rfl,n,rfl⟩ (by simp[<- hsz]) fun h' he'=>?_;exact⟨rfl,k h' s.toks fun a o hb e=>he' a o hb e⟩
theorem Iter.ofTup{Z₀:ZM}{I l:Addr}{its:List V}{vs:Array Value}{n:Nat}(hA:X.A.handled=none)(hl:Z₀ l=some {cls:=.type "tuple",data:=.seq vs n})(hr:VsRel X.prog X.w Z₀ its vs.toList):
  Iter X target Z₀ I its (fun i h=>h.IsTupleIter I l i /\ h.get? l=some {cls:=.type "tuple",data:=.seq vs n}) where
 frame:=fun i h h' st k=>⟨by obtain⟨o,ho,q⟩:=st.1;exact⟨o,k I o (.inl rfl) ho,q⟩,k l _ (.inr hl) st.2⟩
 item:=fun i s Z Q hi st hle hz hI k=>by
  have hne:=U7 hle hz hl hI;have hsz:vs.size=its.length:=by rw[<- hr.length];simp
  have hiv:i < vs.size:=by exact(lt_of_lt_of_le hi (le_of_eq hsz.symm))
  refine wpAny_pyNext_tuple_item st.1 ⟨_,st.2,rfl,n,rfl⟩ (x:=vs[i]) (by simp[hiv]) fun h' hit' hs'=>?_;refine⟨_,rfl,?_⟩;obtain⟨v,hv,hrv⟩:=hr.get (i:=i) (d:=its[i]) (by exact getElem?_eq_getElem ..);have hv':vs[i]=v:=by exact Py (by assumption) (hv)
  obtain⟨o,ho,hc,hd⟩:=id hit';refine X7 ho (fun n e=>by rw[hc] at e;cases e;decide) ?_;exact k _ h' s.toks Z its[i] (by exact getElem?_eq_getElem ..) (hv' ▸ hrv.mono hle) (fun _ _ h=>h) (fun a o' e=>(hs'.2 a (fun h=>by rw[h,hI] at e;exact nsE e)).trans (hz a o' e)) (fun a o' e=>.inl e) ⟨hit',(hs'.2 l hne).trans st.2⟩ (fun a o' hb e=>(hs'.2 a hb).trans e) ⟨o,ho⟩
 done:=fun s Q st k=>by
  have hsz:vs.size=its.length:=by rw[<- hr.length];simp
  refine wpAny_pyNext_tuple_end hA st.1 ⟨_,st.2,rfl,n,rfl⟩ (by simp[<- hsz]) fun h' he'=>?_;exact⟨rfl,k h' s.toks fun a o hb e=>he' a o hb e⟩
noncomputable def Uk(a b:Int):List V:=(List.range (b - a).toNat).map fun i:Nat=>V.int (a + (i:Int))
theorem Iter.ofRange{Z₀:ZM}{I:Addr}{a b:Int}(hA:X.A.handled=none):
  Iter X target Z₀ I (Uk a b) (fun i h=>IsRangeIter h I (a + (i:Nat)) (((b - a).toNat:Int) - (i:Nat)) 1) where
 frame:=fun i h h' st k=>k I _ (.inl rfl) st
 item:=fun i s Z Q hi st hle hz hI k=>by
  have hi':i < (b - a).toNat:=by exact Nat.lt_of_lt_of_eq (hi) ((length_map ..).trans length_range)
  refine wpAny_pyNext_range_item st (Int.sub_pos_of_lt (ofNat_lt.mpr hi')) fun h' hit' hs'=>?_;refine⟨_,rfl,?_⟩;refine X7 hit' (fun n e=>by cases e;decide) ?_;refine k _ h' (s.toks + 1) Z (.int (a + (i:Int))) (by exact Jr (by assumption)) Zu (fun _ _ h=>h) (fun a o' e=>(hs'.2 a (fun h=>by rw[h,hI] at e;exact nsE e)).trans (hz a o' e)) (fun a o' e=>.inl e) ?_ (fun a o' hb e=>(hs'.2 a hb).trans e) ⟨_,hit'⟩;have e1:a + ((i + 1:Nat):Int)=a + (i:Int) + 1:=(Int.add_assoc a i 1).symm;have e2:((b - a).toNat:Int) - ((i + 1:Nat):Int)=((b - a).toNat:Int) - (i:Int) - 1:=Qd _ _;rw[e1,e2];exact hit'
 done:=fun s Q st k=>by
  refine wpAny_pyNext_range_end hA st (by simp[Uk]) fun h' he'=>?_;exact⟨rfl,k h' s.toks fun a o hb e=>he' a o hb e⟩
noncomputable def Tr(x:Str):List V:=x.cps.toList.map fun c=>V.str ⟨#[c]⟩
theorem Iter.ofStr{Z₀:ZM}{I:Addr}{x:Str}{t:Tok}(hA:X.A.handled=none):Iter X target Z₀ I (Tr x) (fun i h=>h.IsStrIter I (strIterType x) x t i) where
 frame:=fun i h h' st k=>by obtain⟨o,ho,q⟩:=st;exact⟨o,k I o (.inl rfl) ho,q⟩
 item:=fun i s Z Q hi st hle hz hI k=>by
  have hi':i < x.cps.size:=by exact Nat.lt_of_lt_of_eq (hi) (length_map ..)
  have key:∀ h',h'.IsStrIter I (strIterType x) x t (i + 1)->Heap.SameBut I s.heap h'->∃ v,some (Value.str ⟨#[x.cps[i]]⟩ s.toks)=some v /\ wpAny (model X.prog X.w) X.A (letOwnedTupleGo target (.ref I) v) (fun _ s₂=>Q v s₂) Zm {s with heap:=h',toks:=s.toks + 1}:=fun h' hit' hs'=>by
   refine⟨_,rfl,?_⟩;obtain⟨o,ho,hc,hd⟩:=id hit';refine X7 ho (fun n e=>by rw[hc] at e;cases e;unfold strIterType;split <;> decide) ?_;exact k _ h' (s.toks + 1) Z (.str ⟨#[x.cps[i]]⟩) (by exact Um (by assumption)) Xi (fun _ _ h=>h) (fun a o' e=>(hs'.2 a (fun h=>by rw[h,hI] at e;exact nsE e)).trans (hz a o' e)) (fun a o' e=>.inl e) hit' (fun a o' hb e=>(hs'.2 a hb).trans e) ⟨_,ho⟩
  revert st key
  unfold strIterType;split
  ·intro st key;exact wpAny_pyNext_ascii_item st (by simp[hi']) key
  ·intro st key;exact wpAny_pyNext_wide_item st (by simp[hi']) key
 done:=fun s Q st k=>by
  have hx:x.cps[(Tr x).length]?=none:=by simp[Tr]
  revert st
  unfold strIterType;split
  ·intro st;exact wpAny_pyNext_ascii_end hA st hx fun h' he'=>⟨rfl,k h' s.toks fun a o hb e=>he' a o hb e⟩
  ·intro st;exact wpAny_pyNext_wide_end hA st hx fun h' he'=>⟨rfl,k h' s.toks fun a o hb e=>he' a o hb e⟩
section
variable{K:Type}[DecidableEq K]{knd:KeyKind X.prog X.w K}
theorem Iter.ofKeys{Z₀:ZM}{I l:Addr}{kvs:List (K × Value)}{ep:Nat}{ob:Obj}{f:K->V}(hf:∀ k v Z,knd.is k v=true->VRel X.prog X.w Z (f k) v)(hA:X.A.handled=none)(hl:Z₀ l=some ob)(hd:∀ h:Heap,h.get? l=some ob->h.DictAt knd l kvs ep):
  Iter X target Z₀ I (kvs.map fun p=>f p.1) (fun i h=>h.IsKeyIter I l i kvs.length ep /\ h.get? l=some ob) where
 frame:=fun i h h' st k=>⟨by obtain⟨o,ho,q⟩:=st.1;exact⟨o,k I o (.inl rfl) ho,q⟩,k l _ (.inr hl) st.2⟩
 item:=fun i s Z Q hi st hle hz hI k=>by
  have hne:=U7 hle hz hl hI;have hi':i < kvs.length:=by exact Nat.lt_of_lt_of_eq (hi) (length_map ..)
  refine wpAny_pyNext_dict_item st.1 (hd _ st.2) (k:=kvs[i].1) (v:=kvs[i].2) (by exact getElem?_eq_getElem ..) fun key h' hkey hit' hs'=>?_;refine⟨_,rfl,?_⟩;obtain⟨o,ho,hc,hdd⟩:=id hit';refine X7 ho (fun n e=>by rw[hc] at e;cases e;decide) ?_;exact k _ h' s.toks Z (f kvs[i].1) (by exact Um (by assumption)) (hf _ _ _ hkey) (fun _ _ h=>h) (fun a o' e=>(hs'.2 a (fun h=>by rw[h,hI] at e;exact nsE e)).trans (hz a o' e)) (fun a o' e=>.inl e) ⟨hit',(hs'.2 l hne).trans st.2⟩ (fun a o' hb e=>(hs'.2 a hb).trans e) ⟨o,ho⟩
 done:=fun s Q st k=>by
  refine wpAny_pyNext_dict_end hA st.1 (hd _ st.2) (by exact Zt (length_map ..)) fun h' he'=>?_;exact⟨rfl,k h' s.toks fun a o hb e=>he' a o hb e⟩
theorem Iter.ofVals{Z₀:ZM}{I l:Addr}{kvs:List (K × Value)}{ep:Nat}{ob:Obj}{its:List V}(hA:X.A.handled=none)(hl:Z₀ l=some ob)(hd:∀ h:Heap,h.get? l=some ob->h.DictAt knd l kvs ep)(hr:VsRel X.prog X.w Z₀ its (kvs.map (·.2))):
  Iter X target Z₀ I its (fun i h=>h.IsValIter I l i kvs.length ep /\ h.get? l=some ob) where
 frame:=fun i h h' st k=>⟨by obtain⟨o,ho,q⟩:=st.1;exact⟨o,k I o (.inl rfl) ho,q⟩,k l _ (.inr hl) st.2⟩
 item:=fun i s Z Q hi st hle hz hI k=>by
  have hne:=U7 hle hz hl hI;have hlen:kvs.length=its.length:=by rw[<- hr.length];exact(length_map ..).symm
  have hi':i < kvs.length:=by exact(lt_of_lt_of_le hi (le_of_eq hlen.symm))
  refine wpAny_pyNext_values_item st.1 (hd _ st.2) (k:=kvs[i].1) (v:=kvs[i].2) (by exact getElem?_eq_getElem ..) fun h' hit' hs'=>?_;refine⟨_,rfl,?_⟩;obtain⟨o,ho,hc,hdd⟩:=id hit';refine X7 ho (fun n e=>by rw[hc] at e;cases e;decide) ?_;obtain⟨v,hv,hrv⟩:=hr.get (i:=i) (d:=its[i]) (by exact getElem?_eq_getElem ..);have hv':kvs[i].2=v:=by simpa [hi'] using hv
  exact k _ h' s.toks Z its[i] (by exact getElem?_eq_getElem ..) (hv' ▸ hrv.mono hle) (fun _ _ h=>h) (fun a o' e=>(hs'.2 a (fun h=>by rw[h,hI] at e;exact nsE e)).trans (hz a o' e)) (fun a o' e=>.inl e) ⟨hit',(hs'.2 l hne).trans st.2⟩ (fun a o' hb e=>(hs'.2 a hb).trans e) ⟨o,ho⟩
 done:=fun s Q st k=>by
  have hlen:kvs.length=its.length:=by rw[<- hr.length];exact(length_map ..).symm
  refine wpAny_pyNext_values_end hA st.1 (hd _ st.2) (by exact Zt (Eq.symm (by assumption))) fun h' he'=>?_;exact⟨rfl,k h' s.toks fun a o hb e=>he' a o hb e⟩
theorem Iter.ofItems{Z₀:ZM}{I l:Addr}{kvs:List (K × Value)}{ep:Nat}{ob:Obj}{its:List V}{ks:List K}{f:K->V}{elts kd pos}(hf:∀ k v Z,knd.is k v=true->VRel X.prog X.w Z (f k) v)(hA:X.A.handled=none)(hl:Z₀ l=some ob)(hd:∀ h:Heap,h.get? l=some ob->h.DictAt knd l kvs ep)(hr:VsRel X.prog X.w Z₀ its (kvs.map (·.2)))(hk:kvs.map (·.1)=ks):
  Iter X (.Tuple elts kd pos) Z₀ I ((ks.zip its).map fun p=>V.tup [f p.1,p.2]) (fun i h=>(∃ ok ov,IsItemIter h I l i kvs.length ep ok ov) /\ h.get? l=some ob) where
 frame:=fun i h h' st k=>⟨by obtain⟨ok,ov,e⟩:=st.1;exact⟨ok,ov,k I _ (.inl rfl) e⟩,k l _ (.inr hl) st.2⟩
 item:=fun i s Z Q hi st hle hz hI k=>by
  have hne:=U7 hle hz hl hI;obtain⟨⟨ok,ov,hit⟩,hlo⟩:=st;have hlen:kvs.length=its.length:=by rw[<- hr.length];exact(length_map ..).symm
  have hkl:ks.length=kvs.length:=by rw[<- hk];exact length_map ..
  have hi':i < kvs.length:=by simp at hi;exact(lt_of_lt_of_le (lt_of_lt_of_le hi (min_le_left ..)) (le_of_eq hkl))
  refine wpAny_pyNext_items_item hit (hd _ hlo) (k:=kvs[i].1) (v:=kvs[i].2) (by exact getElem?_eq_getElem ..) fun key h' hkey hout htup hsz hs'=>?_;refine⟨_,rfl,?_⟩;refine wpAny_letOwnedTupleGo_items hout fun h'' hit'' hs''=>?_;obtain⟨v,hv,hrv⟩:=hr.get (i:=i) (d:=its[i]'(by exact(lt_of_lt_of_le hi' (le_of_eq hlen)))) (by exact getElem?_eq_getElem ..);have hv':kvs[i].2=v:=by simpa [hi'] using hv
  have nz:Z s.heap.objs.size=none:=by
   refine Zb fun o e=>?_;exact absurd (lt_size (hz _ _ e)) (lt_irrefl _)
  have nI:s.heap.objs.size ≠ I:=ne_of_gt (lt_size hit);have le:Z.le (Zput Z s.heap.objs.size {cls:=.type "tuple",data:=.seq #[key,kvs[i].2]}):=Zput.le fun o e=>by rw[nz] at e;exact nsE e
  refine k _ h'' s.toks (Zput Z s.heap.objs.size {cls:=.type "tuple",data:=.seq #[key,kvs[i].2]}) (.tup [f kvs[i].1,its[i]'(by exact(lt_of_lt_of_le hi' (le_of_eq hlen)))]) ?_ ?_ le (fun a o e=>?_) (fun a o e=>?_) ⟨⟨_,_,hit''⟩,(hs''.2 l hne).trans (hs' l _ hne hlo)⟩ (fun a o hb e=>(hs''.2 a hb).trans (hs' a o hb e)) ⟨_,hit''⟩
  ·have:ks[i]?=some kvs[i].1:=by rw[<- hk];exact Um (by assumption)
   have hi2:i < ks.length:=by exact(lt_of_lt_of_le hi' (le_of_eq hkl.symm))
   have hi3:i < its.length:=by exact(lt_of_lt_of_le hi' (le_of_eq hlen))
   have e2:ks[i]=kvs[i].1:=by exact Py (by assumption) (this)
   rw[getElem?_map,getElem?_eq_getElem (by rw[length_zip];exact Nat.lt_min.mpr ⟨hi2,hi3⟩)];simp[e2]
  ·refine Ue Zput.self ?_;exact⟨key,[kvs[i].2],rfl,hf _ _ _ hkey,kvs[i].2,[],rfl,by rw[hv'] at le ⊢;exact(hrv.mono hle).mono le,rfl⟩
  ·unfold Zput at e;split at e
   ·subst_vars;cases e;exact(hs''.2 _ nI).trans htup
   ·have ha:a ≠ I:=fun h=>by rw[h,hI] at e;exact nsE e
    exact(hs''.2 a ha).trans (hs' a o ha (hz _ _ e))
  ·unfold Zput at e;split at e
   ·subst_vars;exact .inr (get?_none_of_le (le_refl _))
   ·exact .inl e
 done:=fun s Q st k=>by
  obtain⟨⟨ok,ov,hit⟩,hlo⟩:=st;have hlen:kvs.length=its.length:=by rw[<- hr.length];exact(length_map ..).symm
  have hkl:ks.length=kvs.length:=by rw[<- hk];exact length_map ..
  have e:((ks.zip its).map fun p=>V.tup [f p.1,p.2]).length=kvs.length:=by rw[length_map,length_zip,hkl,hlen,min_self]
  rw[e] at hit;refine wpAny_pyNext_items_end hA hit (hd _ hlo) (by exact K5) fun h' he'=>?_;exact⟨rfl,k h' s.toks fun a o hb e=>he' a o hb e⟩
end
theorem ITER.list{l:List V}(hA:X.A.handled=none):ITER X target B (.list l) l:=fun Z s v Q r hv k=>by
 obtain⟨a,its,n,rfl,ha,hr⟩:=hv;have ho:=r.zin _ _ ha;have ne:a ≠ s.heap.objs.size:=ne_of_lt (lt_size ho);refine wpAny_pyIter_list ⟨_,ho,rfl,n,rfl⟩ (k _ _ rfl (Iter.ofList hA ha hr) ⟨⟨_,get?_push_size _ rfl,rfl,rfl⟩,get?_push_of_some _ ho⟩)
theorem ITER.tup{l:List V}(hA:X.A.handled=none):ITER X target B (.tup l) l:=fun Z s v Q r hv k=>by
 obtain⟨a,its,n,rfl,ha,hr⟩:=hv;have ho:=r.zin _ _ ha;refine wpAny_pyIter_tuple ⟨_,ho,rfl,n,rfl⟩ (k _ _ rfl (Iter.ofTup hA ha hr) ⟨⟨_,get?_push_size _ rfl,rfl,rfl⟩,get?_push_of_some _ ho⟩)
theorem U8{a:Int}(h: -(2 ^ 62) ≤ a /\ a ≤ 2 ^ 62):Builtin.Range.rangeFitsLong a=true:=by
 unfold Builtin.Range.rangeFitsLong;simp only[and_eq_true,decide_eq_true_eq];exact⟨(Int.le_trans (by decide) h.1),(Int.lt_of_le_of_lt h.2 (by decide))⟩
theorem Vr(a b:Int):Builtin.Range.rangeSize a b 1=((b - a).toNat:Int):=by
 unfold Builtin.Range.rangeSize;simp only[show(1:Int) > 0 by decide,if_true];split
 ·rename_i h;rw[Int.ediv_one,Int.toNat_of_nonneg (Int.le_of_lt (Int.sub_pos_of_lt h))];exact sub_add_cancel ..
 ·rename_i h;rw[Int.toNat_of_nonpos (Int.sub_nonpos_of_le (Int.not_lt.mp h))];rfl
theorem M1{a b:Int}(ha: -(2 ^ 60) ≤ a /\ a ≤ 2 ^ 60)(hb: -(2 ^ 60) ≤ b /\ b ≤ 2 ^ 60):Builtin.Range.small a b 1=true:=by
 unfold Builtin.Range.small;rw[Vr,U8 (by exact⟨(Int.le_trans (by decide) ha.1),(Int.le_trans ha.2 (by decide))⟩),U8 (by exact⟨(Int.le_trans (by decide) hb.1),(Int.le_trans hb.2 (by decide))⟩),U8 (a:=1) (by decide),U8 ⟨Int.le_trans (by decide) (natCast_nonneg _),Int.le_trans (ofNat_le.mpr (Int.toNat_le.mpr (Int.le_trans (Int.sub_le_sub hb.2 ha.1) (by decide:(2:Int) ^ 60 - -(2 ^ 60) ≤ ((2 ^ 61:Nat):Int))))) (by decide)⟩];simp only[Bool.true_and,or_eq_true,show(1:Int) > 0 by decide,if_true];exact .inr (U8 (by rw[show(1 - 1:Int)=0 from rfl,add_zero];exact⟨Int.le_trans (by decide) hb.1,Int.le_trans hb.2 (by decide)⟩))
theorem ITER.rng{a b:Int}(hA:X.A.handled=none)(hs:Builtin.Range.small a b 1=true):ITER X target B (.rng a b) (Uk a b):=fun Z s v Q r hv k=>by
 obtain⟨p,t,u,x,rfl,ha⟩:=hv;have ho:=r.zin _ _ ha;refine wpAny_pyIter_range ho hs (k _ _ rfl (Iter.ofRange hA) ?_);have e1:a + ((0:Nat):Int)=a:=by exact sub_zero _
 have e2:((b - a).toNat:Int) - ((0:Nat):Int)=((b - a).toNat:Int):=by rfl
 rw[Vr,e1,e2];exact get?_push_size _ rfl
theorem P5{k:Str}{v:Value}{Z:ZM}(h:(strKind X.prog X.w).is k v=true):VRel X.prog X.w Z (.str k) v:=Value.isStrOf_shape h
theorem ZDict.open{K:Type}[DecidableEq K]{knd:KeyKind X.prog X.w K}{a:Addr}{kvs:List (K × Value)}(h:ZDict knd Z a kvs):∃ ob ep,Z a=some ob /\ ∀ h:Heap,h.get? a=some ob->h.DictAt knd a kvs ep:=
 let ⟨o,es,ep,e,q⟩:=h;⟨o,ep,e,fun h' e'=>⟨o,es,e',q⟩⟩
theorem Wc{α β:Type}{ks:List α}{vs:List β}(h:ks.length=vs.length):(ks.zip vs).map (·.1)=ks:=map_fst_zip (le_of_eq h)
theorem Rz{α β:Type}{ks:List α}{vs:List β}(h:ks.length=vs.length):(ks.zip vs).map (·.2)=vs:=List.map_snd_zip (le_of_eq h.symm)
theorem Yt{a:Addr}(h:3 < a):(a == sysModules)=false:=by
 cases h':a == sysModules with
 | false=>rfl
 | true=>rw[beq_iff_eq] at h';subst h';exact absurd h (by decide)
theorem ITER.sdict{ks:List Str}{l:List V}(hA:X.A.handled=none):ITER X target B (.sdict ks l) (ks.map V.str):=fun Z s v Q r hv k=>by
 obtain⟨a,vs,rfl,lo,hz,hl,hr⟩:=hv;obtain⟨ob,ep,he,hd⟩:=hz.open;have ho:=r.zin _ _ he;refine wpAny_pyIter_dict (Yt lo) (hd _ ho) (k _ (fun i h=>h.IsKeyIter s.heap.objs.size a i (ks.zip vs).length ep /\ h.get? a=some ob) rfl ?_ ⟨⟨_,get?_push_size _ rfl,rfl,rfl⟩,get?_push_of_some _ ho⟩);have:=Iter.ofKeys (X:=X) (target:=target) (Z₀:=Z) (I:=s.heap.objs.size) (f:=V.str) (fun k v Z h=>P5 h) hA he hd
 have e:(ks.zip vs).map (fun p=>V.str p.1)=ks.map V.str:=by
  rw[<- Wc hl,map_map];rw[Wc hl];rfl
 rw[e] at this;exact this
theorem ITER.svals{ks:List Str}{l:List V}(hA:X.A.handled=none):ITER X target B (.view false (.sdict ks l)) l:=fun Z s v Q r hv k=>by
 obtain⟨p,da,rfl,hp,a,vs,e,lo,hz,hl,hr⟩:=hv;cases e;obtain⟨ob,ep,he,hd⟩:=hz.open;have ho:=r.zin _ _ he;refine wpAny_pyIter_values ⟨_,r.zin _ _ hp,rfl,rfl⟩ (hd _ ho) (k _ (fun i h=>h.IsValIter s.heap.objs.size da i (ks.zip vs).length ep /\ h.get? da=some ob) rfl (Iter.ofVals hA he hd (by rw[Rz hl];exact hr)) ⟨⟨_,get?_push_size _ rfl,rfl,rfl⟩,get?_push_of_some _ ho⟩)
theorem ITER.sitems{ks:List Str}{l:List V}{elts kd pos}(hA:X.A.handled=none):ITER X (.Tuple elts kd pos) B (.view true (.sdict ks l)) ((ks.zip l).map fun p=>V.tup [.str p.1,p.2]):=fun Z s v Q r hv k=>by
 obtain⟨p,da,rfl,hp,a,vs,e,lo,hz,hl,hr⟩:=hv;cases e;obtain⟨ob,ep,he,hd⟩:=hz.open;have ho:=r.zin _ _ he;refine wpAny_pyIter_items ⟨_,r.zin _ _ hp,rfl,rfl⟩ (hd _ ho) (k _ (fun i h=>(∃ ok ov,IsItemIter h s.heap.objs.size da i (ks.zip vs).length ep ok ov) /\ h.get? da=some ob) rfl (Iter.ofItems (f:=V.str) (fun k v Z h=>P5 h) hA he hd (by rw[Rz hl];exact hr) (Wc hl)) ⟨⟨_,_,get?_push_size _ rfl⟩,get?_push_of_some _ ho⟩)
theorem Ext.butI{B₀:St}{Z₀:ZM}{s₀:Shared}(r₀:Rel X B₀ Z₀ s₀)(x:Ext X B₀ Z₀ s₀ B Z s){I:Addr}{h':Heap}{tk:Nat}{Z':ZM}(h0:s₀.heap.get? I=none)(hI:I ∉ Z0 X B)
  (hk:∀ a o,a ≠ I->s.heap.get? a=some o->h'.get? a=some o) (hle:Z.le Z') (hz:∀ a o,Z' a=some o->h'.get? a=some o) (hzn:∀ a o,Z' a=some o->Z a=some o \/ s.heap.get? a=none):
  Ext X B₀ Z₀ s₀ B Z' {s with heap:=h',toks:=tk}:=by
 have r:=x.rel
 have nb:X.base.get? I=none:=by
  refine Zb fun o e=>?_;obtain⟨o2,h2⟩:=r₀.old.there _ _ e;rw[h0] at h2;exact nsE h2
 have nf:∀ a ∈ Z0 X B,a ≠ I:=fun a ha h=>hI (h ▸ ha);have kb:∀ b o o',X.base.get? b=some o->s.heap.get? b=some o'->h'.get? b=some o':=fun b o o' e e'=>hk _ _ (fun h=>by rw[h,nb] at e;exact nsE e) e';have inL:X.env.locals ∈ Z0 X B:=mem_cons_self;have inC:∀ c ∈ X.own,c ∈ Z0 X B:=fun c hc=>mem_cons_of_mem _ (mem_append_left _ hc);refine⟨⟨r.fr,hz,fun a o e ht=>hle _ _ (r.st a o e ht),fun a ha=>?_,?_,r.os,r.gens,?_,?_,?_,(fun c hc=>let ⟨uo,o,ho,hd⟩:=r.ownc c hc;⟨uo,o,hk _ _ (nf _ (inC _ hc)) ho,hd⟩),?_,r.nd,fun a ha=>?_,r.bfoot,fun a ha=>?_,(let ⟨o3,h3⟩:=r.g3;⟨o3,hle _ _ h3⟩),r.low⟩,fun a o e=>hle _ _ (x.le a o e),fun a o e hf ht=>hk _ _ (fun h=>by rw[h,h0] at e;exact nsE e) (x.keep a o e hf ht),x.new,fun a o e=>?_⟩
 ·refine Zb fun o e=>?_;rcases hzn a o e with h | h
  ·rw[r.ztab a ha] at h;exact nsE h
  ·obtain⟨ob,_,hb,_⟩:=ha;obtain⟨o2,h2⟩:=r.old.there _ _ hb;rw[h] at h2;exact nsE h2
 ·refine⟨fun b o e=>?_,fun b o e=>let ⟨o',ho'⟩:=r.old.there b o e;⟨o',kb b o o' e ho'⟩⟩;rcases r.old.old b o e with y | ⟨t,hc,vs,more,hv,y⟩ | ⟨rfl,hc,⟨o',es,n,ho',r'⟩,z⟩
  ·exact .inl (kb _ _ _ e y)
  ·exact .inr (.inl ⟨t,hc,vs,more,hv,kb _ _ _ e y⟩)
  ·refine .inr (.inr ⟨rfl,hc,⟨o',es,n,kb _ _ _ e ho',r'⟩,fun key=>?_⟩);rw[OldK.staticOf_congr ((kb _ _ _ e ho').trans ho'.symm) key];exact z key
 ·obtain⟨m,hn,hm⟩:=r.ns;exact⟨m,hn.at' fun o e=>hk _ _ (nf _ inL) e,fun y ov h=>(hm y ov h).mono hle⟩
 ·intro y ov hy;obtain⟨c,uo,hw,hc,⟨o,ho,hd⟩,hr⟩:=r.cells y ov hy;exact⟨c,uo,hw,hc,⟨o,hk _ _ (nf _ (inC _ hw)) ho,hd⟩,hr.mono hle⟩
 ·intro y d hy;obtain⟨c,o,v,hc,hz',hd,hr⟩:=r.cap y d hy;exact⟨c,o,v,hc,hle _ _ hz',hd,hr.mono hle⟩
 ·intro p hp;exact(r.mem p hp).mono hle fun o e=>hk _ _ (nf _ (r.nonempty hp)) e
 ·refine Zb fun o e=>?_;rcases hzn a o e with h | h
  ·rw[r.zfoot a ha] at h;exact nsE h
  ·obtain⟨o2,h2⟩:=r.ex a ha;rw[h] at h2;exact nsE h2
 ·obtain⟨o,ho⟩:=r.ex a ha;exact⟨o,hk _ _ (nf _ ha) ho⟩
 ·rcases hzn a o e with h | h
  ·exact x.znew a o h
  ·exact .inr (x.gone h)
inductive FORB(X:Cx)(target:PySem.Expr)(body:List Stmt)(Q:Fl->St->Prop)(d:V)(B1:St):Prop
 | mk (its:List V) (hit:ITER X target B1 d its) (Inv:Nat->St->Prop) (inv0:Inv 0 B1)
  (turn:∀ i di B2,its[i]?=some di->Inv i B2->AS X target di B2 fun B3=>EXK X body B3 (Inv (i + 1)) Q)
  (fin:∀ B2,Inv its.length B2->Q .next B2)
theorem Ext.outZ(x:Ext X B Z s B' Z' s'){I:Addr}(f:I ∉ Z0 X B)(z:Z I=none){o:Obj}(ho:s.heap.get? I=some o):Z' I=none:=by
 refine Zb fun o2 e=>?_;rcases x.znew _ _ e with h | h | h
 ·rw[z] at h;exact nsE h
 ·exact absurd (mem_cons_of_mem _ (mem_append_right _ h)) f
 ·rw[ho] at h;exact snE h
theorem Ext.outF(x:Ext X B Z s B' Z' s'){I:Addr}(f:I ∉ Z0 X B){o:Obj}(ho:s.heap.get? I=some o):I ∉ Z0 X B':=fun hm=>by
 rcases x.footNew hm with h | h
 ·exact f h
 ·rw[ho] at h;exact snE h
theorem Rel.freshTb(r:Rel X B Z s):¬ Tb X s.heap.objs.size:=fun hh0=>by
 obtain⟨ob,_,hb,_⟩:=hh0;obtain⟨o2,h2⟩:=r.old.there _ _ hb;rw[get?_none_of_le (le_refl _)] at h2;exact nsE h2
inductive F9(X:Cx)(B1:St)(Z1:ZM)(s1:Shared)(n:Nat)(Inv:Nat->St->Prop)(S:Nat->Heap->Prop)(k:Nat)(s':Shared):Prop
 | mk (i:Nat) (B':St) (Z':ZM) (hk:k=n - i) (hi:i ≤ n) (x:Ext X B1 Z1 s1 B' Z' s') (inv:Inv i B') (st:S i s'.heap) (zI:Z' s1.heap.objs.size=none) (fI:s1.heap.objs.size ∉ Z0 X B') (o:Obj) (ho:s'.heap.get? s1.heap.objs.size=some o)
inductive ForK(X:Cx)(B1:St)(Z1:ZM)(s1:Shared)(its:List V)(S:Nat->Heap->Prop)(i:Nat)(B':St)(v:Value)(s2:Shared):Prop
 | mk (Z2:ZM) (d:V) (hd:its[i]?=some d) (hv:VRel X.prog X.w Z2 d v) (x:Ext X B1 Z1 s1 B' Z2 s2) (st:S (i + 1) s2.heap) (zI:Z2 s1.heap.objs.size=none) (o:Obj) (ho:s2.heap.get? s1.heap.objs.size=some o)
theorem ForK.next{B1:St}{Z1 Z2 Z5:ZM}{s1 s3 s5:Shared}{B5:St}{its:List V}{Inv:Nat->St->Prop}{S:Nat->Heap->Prop}{i:Nat}{o:Obj}(it:Iter X target Z1 s1.heap.objs.size its S)(r1:Rel X B1 Z1 s1)(fI:s1.heap.objs.size ∉ Z0 X B')(hlt:i < its.length)
  (x2:Ext X B1 Z1 s1 B' Z2 s3) (st:S (i + 1) s3.heap) (zI:Z2 s1.heap.objs.size=none) (ho:s3.heap.get? s1.heap.objs.size=some o) (x5:Ext X B' Z2 s3 B5 Z5 s5) (h:Inv (i + 1) B5):∃ m,m < its.length - i /\ F9 X B1 Z1 s1 its.length Inv S m s5:=by
 have hoI5:=x5.keep _ _ ho fI r1.freshTb;refine⟨its.length - (i + 1),Nat.sub_lt_sub_left hlt (lt_succ_self i),i + 1,B5,Z5,rfl,hlt,x2.trans x5,h,it.frame _ _ _ st fun a o' ha e=>?_,x5.outZ fI zI ho,x5.outF fI ho,o,hoI5⟩;rcases ha with rfl | ha
 ·exact x5.keep _ _ e fI r1.freshTb
 ·exact x5.rel.zin _ _ (x5.le _ _ (x2.le _ _ ha))
theorem ForK.item{B1:St}{Z1:ZM}{s1:Shared}{its:List V}{S:Nat->Heap->Prop}{i:Nat}{o:Obj}(it:Iter X target Z1 s1.heap.objs.size its S)(r1:Rel X B1 Z1 s1)(fI:s1.heap.objs.size ∉ Z0 X B')(hlt:i < its.length)
  (x:Ext X B1 Z1 s1 B' Z' s') (st:S i s'.heap) (zI:Z' s1.heap.objs.size=none) (ho:s'.heap.get? s1.heap.objs.size=some o):
  wpAny (model X.prog X.w) X.A (pyNext (.ref s1.heap.objs.size)) (fun r s₁=>∃ v,r=some v /\ wpAny (model X.prog X.w) X.A (letOwnedTupleGo target (.ref s1.heap.objs.size) v) (fun _ s₂=>ForK X B1 Z1 s1 its S i B' v s₂) Zm s₁) Zm s':=
 it.item i s' Z' _ hlt st x.le x.rel.zin zI fun v h' tk Z2 d' hd' hv hle hz hzn st' hk hex=>by
  obtain⟨o2,ho2⟩:=hex;refine⟨Z2,d',hd',hv,Ext.butI r1 x (get?_none_of_le (le_refl _)) fI hk hle hz hzn,st',?_,o2,ho2⟩;refine Zb fun o2 e=>?_;rcases hzn _ _ e with h | h
  ·rw[zI] at h;exact nsE h
  ·rw[ho] at h;exact snE h
noncomputable def Le(R:Result->Shared->Prop)(J:Nat->Shared->Prop)(n:Nat)(f:Flow)(s:Shared):Prop:=match f with
 | .next | .cont=>∃ m,m < n /\ J m s
 | .brk=>R (.ok .next) s
 | .ret v=>R (.ok (.ret v)) s
theorem Qk{prog:Program}{w:World}{A:Around}{R:Result->Shared->Prop}{target:PySem.Expr}{it:Value}{body:List Stmt}{env:Env}(J:Nat->Shared->Prop)
  (turn:∀ n s,J n s->wpAny (model prog w) A (pyNext it) (fun r s₁=>match r with
   | none=>R (.ok .next) s₁
   | some v=>wpAny (model prog w) A (letOwnedTupleGo target it v) (fun _ s₁'=>wpAny (model prog w) A (assign target env v) (fun _ s₂=>wpAny (model prog w) A (execs body env) (Le R J n) Zm s₂) Zm s₁') Zm s₁) Zm s)
  (n:Nat) (h:J n s):codeAny (model prog w) A (.forLoop target it body [] env) R s:=by
 refine codeAny_forLoop_any J (fun n s hj=>wpAny_mono (turn n s hj) (fun r s₁ q=>?_) fun _ _ h=>h.elim) n h;cases r with
 | none=>exact wpAny_execs_nil q
 | some v=>
  refine wpAny_mono q (fun _ s₂ q=>wpAny_mono q (fun _ s₃ q=>wpAny_mono q (fun f s₄ q=>?_) fun _ _ h=>h.elim) fun _ _ h=>h.elim) fun _ _ h=>h.elim;cases f <;> exact q
theorem Post.flow{J:Nat->Shared->Prop}{n:Nat}{I:St->Prop}{Q K:Fl->St->Prop}{R:Result->Shared->Prop}{Y:Cx}{f:Flow}(hq:∀ {f':Fl} {f:Flow},RFl X Z' f' f->Q f' B'->R (.ok f) s'){f':Fl}(hf:RFl X Z' f' f)
  (hi:I B'->∃ m,m < n /\ J m s') (h:match (generalizing:=false) f' with | .next | .cont=>I B' | .brk=>Q .next B' | .ret v=>Q (.ret v) B'):Le R J n f s':=by
 cases f' with
 | next=>cases hf;exact hi h
 | cont=>cases hf;exact hi h
 | brk=>cases hf;exact hq Zz h
 | ret d=>obtain⟨v',rfl,hv'⟩:=hf;exact hq (Rl hv') h
theorem ES.for{iter body pos}{Q:Fl->St->Prop}(hA:X.A.handled=none)
  (h:EV X iter B (FORB X target body Q))
  (hs:∀ env x,foldedSetIterable iter env x=pure x:=by intro _ _;rfl):ES X (.For target iter body [] pos) B Q:=fun Z s r=>by
 refine wpAny_For (J.use h r fun Z1 s1 B1 d v x1 r1 h1=>?_) (hs _);obtain⟨its,hit,Inv,inv0,turn,fin⟩:=h1;refine hit Z1 s1 v _ x1.rel r1 fun o St hof it st0=>?_;refine Qk (F9 X B1 Z1 s1 its.length Inv St) ?_ its.length ?_
 ·intro n s' hj;obtain⟨i,B',Z',rfl,hi,x,inv,st,zI,fI,oI,hoI⟩:=hj
  by_cases hlt:i < its.length
  ·refine wpAny_mono (ForK.item it x1.rel fI hlt x st zI hoI) (fun res s2 h2=>?_) fun _ _ h=>h.elim;obtain⟨v,rfl,h2⟩:=h2;refine wpAny_mono h2 (fun _ s3 h3=>?_) fun _ _ h=>h.elim;obtain⟨Z2,d',hd',hv,x2,st2,zI2,oI2,hoI2⟩:=h3;refine wpAny_mono (turn i d' B' hd' inv Z2 s3 v x2.rel hv) (fun _ s4 q=>?_) fun _ _ h=>h.elim;obtain⟨Z4,B4,_,x4,_,h4⟩:=q;refine wpAny_mono (h4.use Z4 s4 x4.rel) (fun f s5 q=>?_) fun _ _ h=>h.elim;obtain⟨Z5,B5,f',x5,hf,h5⟩:=q;exact Post.flow (Y:=X) (K:=Q) (fun hf h=>here (x1.trans (x2.trans (x4.trans x5))) hf h) hf (fun h=>ForK.next it x1.rel fI hlt x2 st2 zI2 hoI2 (x4.trans x5) h) h5
  ·obtain rfl:i=its.length:=le_antisymm hi (le_of_not_lt hlt);refine wpAny_mono (it.done s' (fun s2=>Ext X B1 Z1 s1 B' Z' s2) st fun h' tk hk=>?_) (fun res s2 h2=>?_) fun _ _ h=>h.elim
   ·exact Ext.butI x1.rel x (get?_none_of_le (le_refl _)) fI hk (fun _ _ h=>h) (fun a o' e=>hk _ _ (fun h=>by rw[h,zI] at e;exact nsE e) (x.rel.zin _ _ e)) fun _ _ h=>.inl h
   ·obtain⟨rfl,x2⟩:=h2;exact here (x1.trans x2) Zz (fin _ inv)
 ·refine⟨0,B1,Z1,rfl,zero_le _,(Ext.refl x1.rel).push o,inv0,st0,?_,fun hm=>absurd (x1.rel.lt _ hm) (lt_irrefl _),o,get?_push_size _ hof⟩;refine Zb fun o2 e=>?_;have h:=x1.rel.zin _ _ e;rw[get?_none_of_le (le_refl _)] at h;exact nsE h
end
section
variable{X:Cx}{B B' B'':St}{Z Z' Z'':ZM}{s s' s'':Shared}
structure ExtI(X:Cx)(I:Addr)(B:St)(Z:ZM)(s:Shared)(B':St)(Z':ZM)(s':Shared):Prop where
 rel:Rel X B' Z' s'
 le:Z.le Z'
 keep:∀ a o,s.heap.get? a=some o->a ∉ Z0 X B->¬ Tb X a->a ≠ I->s'.heap.get? a=some o
 new:∀ a ∈ keys B'.mem,a ∈ keys B.mem \/ s.heap.get? a=none
 znew:∀ a o,Z' a=some o->Z a=some o \/ a ∈ keys B.mem \/ s.heap.get? a=none
 there:∃ o,s'.heap.get? I=some o
 out:I ∉ Z0 X B'
 zI:Z' I=none
theorem ExtI.refl{I:Addr}(r:Rel X B Z s)(h:∃ o,s.heap.get? I=some o)(hf:I ∉ Z0 X B)(hz:Z I=none):ExtI X I B Z s B Z s:=
 ⟨r,fun _ _ h=>h,fun _ _ e _ _ _=>e,fun _ h=>.inl h,fun _ _ h=>.inl h,h,hf,hz⟩
theorem ExtI.gone{I:Addr}(x:ExtI X I B Z s B' Z' s'){a:Addr}(h:s'.heap.get? a=none):a ∈ keys B.mem \/ s.heap.get? a=none:=by
 cases e:s.heap.get? a with
 | none=>exact .inr rfl
 | some o=>
  by_cases ht:Tb X a
  ·obtain⟨ob,_,hb,_⟩:=ht;obtain⟨o2,h2⟩:=x.rel.old.there _ _ hb;rw[h] at h2;exact nsE h2
  ·by_cases hf:a ∈ Z0 X B
   ·unfold Z0 at hf;have ex:=x.rel.ex;unfold Z0 at ex;rcases mem_cons.mp hf with rfl | hf
    ·obtain⟨o2,h2⟩:=ex _ mem_cons_self;rw[h] at h2;exact nsE h2
    ·rcases mem_append.mp hf with hf | hf
     ·obtain⟨o2,h2⟩:=ex _ (mem_cons_of_mem _ (mem_append_left _ hf));rw[h] at h2;exact nsE h2
     ·exact .inl hf
   ·by_cases hI:a=I
    ·obtain⟨o2,h2⟩:=x.there;rw[<- hI,h] at h2;exact nsE h2
    ·rw[x.keep a o e hf ht hI] at h;exact snE h
theorem ExtI.step{I:Addr}(hb:X.base.get? I=none)(x:ExtI X I B Z s B' Z' s')(y:Ext X B' Z' s' B'' Z'' s''):ExtI X I B Z s B'' Z'' s'':=by
 have nTb:¬ Tb X I:=fun hh0=>by obtain⟨ob,_,h,_⟩:=hh0;rw[hb] at h;exact nsE h
 obtain⟨oI,hoI⟩:=x.there
 have fn:∀ a ∈ Z0 X B'',a ∈ Z0 X B \/ s.heap.get? a=none:=fun a ha=>by
  rcases y.footNew ha with h | h
  ·delta Z0 at h ⊢
   rcases mem_cons.mp h with rfl | h
   ·exact .inl mem_cons_self
   ·rcases mem_append.mp h with h | h
    ·exact .inl (mem_cons_of_mem _ (mem_append_left _ h))
    ·rcases x.new a h with h | h
     ·exact .inl (mem_cons_of_mem _ (mem_append_right _ h))
     ·exact .inr h
  ·rcases x.gone h with h | h
   ·exact .inl (by delta Z0;exact mem_cons_of_mem _ (mem_append_right _ h))
   ·exact .inr h
 have fn':∀ a ∈ Z0 X B',a ∈ Z0 X B \/ s.heap.get? a=none:=fun a h=>by
  delta Z0 at h ⊢
  rcases mem_cons.mp h with rfl | h
  ·exact .inl mem_cons_self
  ·rcases mem_append.mp h with h | h
   ·exact .inl (mem_cons_of_mem _ (mem_append_left _ h))
   ·rcases x.new a h with h | h
    ·exact .inl (mem_cons_of_mem _ (mem_append_right _ h))
    ·exact .inr h
 refine⟨y.rel,fun a o h=>y.le a o (x.le a o h),fun a o e hf ht hI=>y.keep a o (x.keep a o e hf ht hI) (fun hm=>?_) ht,fun a hk=>?_,fun a o hz=>?_,⟨oI,y.keep _ _ hoI x.out nTb⟩,fun hm=>?_,?_⟩
 ·rcases fn' a hm with h | h
  ·exact hf h
  ·rw[h] at e;exact nsE e
 ·rcases y.new a hk with h | h
  ·exact x.new a h
  ·exact x.gone h
 ·rcases y.znew a o hz with h | h | h
  ·exact x.znew a o h
  ·exact .inr (x.new a h)
  ·exact .inr (x.gone h)
 ·rcases y.footNew hm with h | h
  ·exact x.out h
  ·rw[hoI] at h;exact snE h
 ·refine Zb fun o2 e=>?_;rcases y.znew _ _ e with h | h | h
  ·rw[x.zI] at h;exact nsE h
  ·exact absurd (by delta Z0;exact mem_cons_of_mem _ (mem_append_right _ h)) x.out
  ·rw[hoI] at h;exact snE h
theorem ExtI.turn{I:Addr}(hb:X.base.get? I=none)(x:ExtI X I B Z s B' Z' s'){h':Heap}{tk:Nat}
  (hk:∀ a o,a ≠ I->s'.heap.get? a=some o->h'.get? a=some o) (hex:∃ o,h'.get? I=some o) (hle:Z'.le Z'') (hz:∀ a o,Z'' a=some o->h'.get? a=some o) (hzn:∀ a o,Z'' a=some o->Z' a=some o \/ s'.heap.get? a=none):
  ExtI X I B Z s B' Z'' {s' with heap:=h',toks:=tk}:=by
 have r:=x.rel;have hI:=x.out;have nf:∀ a ∈ Z0 X B',a ≠ I:=fun a ha h=>hI (h ▸ ha);have kb:∀ b o o',X.base.get? b=some o->s'.heap.get? b=some o'->h'.get? b=some o':=fun b o o' e e'=>hk _ _ (fun h=>by rw[h,hb] at e;exact nsE e) e';have inL:X.env.locals ∈ Z0 X B':=mem_cons_self;have inC:∀ c ∈ X.own,c ∈ Z0 X B':=fun c hc=>mem_cons_of_mem _ (mem_append_left _ hc);obtain⟨oI,hoI⟩:=x.there;refine⟨⟨r.fr,hz,fun a o e ht=>hle _ _ (r.st a o e ht),fun a ha=>?_,?_,r.os,r.gens,?_,?_,?_,(fun c hc=>let ⟨uo,o,ho,hd⟩:=r.ownc c hc;⟨uo,o,hk _ _ (nf _ (inC _ hc)) ho,hd⟩),?_,r.nd,fun a ha=>?_,r.bfoot,fun a ha=>?_,(let ⟨o3,h3⟩:=r.g3;⟨o3,hle _ _ h3⟩),r.low⟩,fun a o e=>hle _ _ (x.le a o e),fun a o e hf ht hne=>hk _ _ hne (x.keep a o e hf ht hne),x.new,fun a o e=>?_,hex,hI,?_⟩
 ·refine Zb fun o e=>?_;rcases hzn a o e with h | h
  ·rw[r.ztab a ha] at h;exact nsE h
  ·obtain⟨ob,_,hb,_⟩:=ha;obtain⟨o2,h2⟩:=r.old.there _ _ hb;rw[h] at h2;exact nsE h2
 ·refine⟨fun b o e=>?_,fun b o e=>let ⟨o',ho'⟩:=r.old.there b o e;⟨o',kb b o o' e ho'⟩⟩;rcases r.old.old b o e with y | ⟨t,hc,vs,more,hv,y⟩ | ⟨rfl,hc,⟨o',es,n,ho',r'⟩,z⟩
  ·exact .inl (kb _ _ _ e y)
  ·exact .inr (.inl ⟨t,hc,vs,more,hv,kb _ _ _ e y⟩)
  ·refine .inr (.inr ⟨rfl,hc,⟨o',es,n,kb _ _ _ e ho',r'⟩,fun key=>?_⟩);rw[OldK.staticOf_congr ((kb _ _ _ e ho').trans ho'.symm) key];exact z key
 ·obtain⟨m,hn,hm⟩:=r.ns;exact⟨m,hn.at' fun o e=>hk _ _ (nf _ inL) e,fun y ov h=>(hm y ov h).mono hle⟩
 ·intro y ov hy;obtain⟨c,uo,hw,hc,⟨o,ho,hd⟩,hr⟩:=r.cells y ov hy;exact⟨c,uo,hw,hc,⟨o,hk _ _ (nf _ (inC _ hw)) ho,hd⟩,hr.mono hle⟩
 ·intro y d hy;obtain⟨c,o,v,hc,hz',hd,hr⟩:=r.cap y d hy;exact⟨c,o,v,hc,hle _ _ hz',hd,hr.mono hle⟩
 ·intro p hp;exact(r.mem p hp).mono hle fun o e=>hk _ _ (nf _ (r.nonempty hp)) e
 ·refine Zb fun o e=>?_;rcases hzn a o e with h | h
  ·rw[r.zfoot a ha] at h;exact nsE h
  ·obtain⟨o2,h2⟩:=r.ex a ha;rw[h] at h2;exact nsE h2
 ·obtain⟨o,ho⟩:=r.ex a ha;exact⟨o,hk _ _ (nf _ ha) ho⟩
 ·rcases hzn a o e with h | h
  ·exact x.znew a o h
  ·exact .inr (x.gone h)
 ·refine Zb fun o2 e=>?_;rcases hzn _ _ e with h | h
  ·rw[x.zI] at h;exact nsE h
  ·rw[hoI] at h;exact snE h
noncomputable def X6(e:PySem.Expr):Prop:=(∃ elt gens scope pos,e=.ListComp elt gens scope pos) \/ ∃ kx vx gens scope pos,e=.DictComp kx vx gens scope pos
noncomputable def Ix(e:PySem.Expr)(acc:Value)(env:Env):Sem Unit:=match e with
 | .ListComp elt _ _ _=>do let _ <- call (.builtin "list.append") [acc,<- eval elt env]
 | .DictComp k v _ _ _=>do
  let kv <- eval k env
  let vv <- holding [kv] (eval v env)
  match acc with
  | .ref d=>do
   standAt {k.pos with endLine:=v.pos.endLine,endCol:=v.pos.endCol}
   holding [kv,vv] (dictSet d kv vv)
  | _=>unsupported "internal:dictcomp"
 | _=>unsupported "internal:not-a-comprehension"
noncomputable def Vn(e:PySem.Expr)(k:Nat)(acc:Value)(env:Env)(K:Sem Fin):Sem Fin:=match (clausesOf e)[k + 1]? with
 | some g'=>do
  let x <- eval g'.iter env
  standAt g'.iter.pos
  let x <- foldedSetIterable g'.iter env x
  let _ <- runOwn (.compStart e (k + 1) (<- holding [x] (pyIter x)) acc env) env
  K
 | none=>Ix e acc env >>= fun _=>K
noncomputable def Rg(ifs:List PySem.Expr)(env:Env):Sem Bool:=forIn ifs true fun c r=>if r=true then do let ok <- isTrue c env (eval c env);pure (ForInStep.yield ok) else pure (ForInStep.yield r)
structure CompK(e:PySem.Expr)(env:Env):Prop where
 quiet:∀ k i acc,(Code.compLoop e k i acc env).quiet=true
 loop:∀ k i acc,∃ f,denote table (.compLoop e k i acc env)=(compTurn e k i acc env).onRaise f
 start:∀ k i acc,denote table (.compStart e k i acc env)=(compStart e k i acc env).onRaise (fun x=>do noteFrame x env;standAt theWindowsPlace)
 wl:∀ (A:Around) k i acc,A.under (.compLoop e k i acc env)=A
 ws:∀ (A:Around) k i acc,A.under (.compStart e k i acc env)=A
theorem CompK.of{e:PySem.Expr}(hc:X6 e)(env:Env):CompK e env:=by
 rcases hc with⟨a,b,c,d,rfl⟩ | ⟨a,b,c,d,f,rfl⟩
 ·exact⟨fun _ _ _=>rfl,fun _ _ _=>⟨_,rfl⟩,fun _ _ _=>rfl,fun _ _ _ _=>Around.under_of_weight rfl,fun _ _ _ _=>Around.under_of_weight rfl⟩
 ·exact⟨fun _ _ _=>rfl,fun _ _ _=>⟨_,rfl⟩,fun _ _ _=>rfl,fun _ _ _ _=>Around.under_of_weight rfl,fun _ _ _ _=>Around.under_of_weight rfl⟩
theorem Qq{e:PySem.Expr}(hc:X6 e)(has:∀ g ∈ clausesOf e,g.is_async=0){k:Nat}{target iter:PySem.Expr}{ifs:List PySem.Expr}(hg:(clausesOf e)[k]?=some ⟨target,iter,ifs,0⟩)(it acc:Value)(env:Env):
  compTurn e k it acc env=(standAt iter.pos >>= fun _=>pyNext it >>= fun r=>match r with
   | none=>pure (.done .next)
   | some v=>letOwnedTupleGo target it v >>= fun _=>assign target env v >>= fun _=>Rg ifs env >>= fun ok=>
    if ok=true then Vn e k acc env (again (.compLoop e k it acc env)) else again (.compLoop e k it acc env)):=by
 rcases hc with⟨elt,gens,scope,pos,rfl⟩ | ⟨kx,vx,gens,scope,pos,rfl⟩
 ·have hg':gens[k]?=some ⟨target,iter,ifs,0⟩:=hg;have ha:∀ g,gens[k + 1]?=some g->g.is_async=0:=fun g e=>has g (mem_of_getElem? e)
  delta compTurn Vn clausesOf
  dsimp only;generalize gens[k]?=o at hg' ⊢;subst hg';generalize gens[k + 1]?=o at ha ⊢;refine congrArg (Sem.bind _) (funext fun _=>congrArg (Sem.bind _) (funext fun r=>?_));cases r with
  | none=>rfl
  | some v=>
   refine congrArg (Sem.bind _) (funext fun _=>congrArg (Sem.bind _) (funext fun _=>congrArg (Sem.bind _) (funext fun ok=>?_)));cases ok with
   | false=>rfl
   | true=>
    cases o with
    | none=>rfl
    | some g=>
     obtain⟨g1,g2,g3,g4⟩:=g;cases (ha _ rfl:g4=0);rfl
 ·have hg':gens[k]?=some ⟨target,iter,ifs,0⟩:=hg;have ha:∀ g,gens[k + 1]?=some g->g.is_async=0:=fun g e=>has g (mem_of_getElem? e)
  delta compTurn Vn clausesOf
  dsimp only;generalize gens[k]?=o at hg' ⊢;subst hg';generalize gens[k + 1]?=o at ha ⊢;refine congrArg (Sem.bind _) (funext fun _=>congrArg (Sem.bind _) (funext fun r=>?_));cases r with
  | none=>rfl
  | some v=>
   refine congrArg (Sem.bind _) (funext fun _=>congrArg (Sem.bind _) (funext fun _=>congrArg (Sem.bind _) (funext fun ok=>?_)));cases ok with
   | false=>rfl
   | true=>
    cases o with
    | none=>rfl
    | some g=>
     obtain⟨g1,g2,g3,g4⟩:=g;cases (ha _ rfl:g4=0);rfl
noncomputable def TS(X:Cx)(ifs:List PySem.Expr)(B:St)(P:Bool->St->Prop):Prop:=J X (REq (α:=Bool)) (Rg ifs X.env) B P
theorem TS.nil{P:Bool->St->Prop}(h:P true B):TS X [] B P:=fun Z s r=>by
 delta Rg
 rw[forIn_nil];exact wpAny_pure (here (b:=true) (Ext.refl r) rfl h)
theorem Uz{M:Model}{A:Around}{E:Value->Shared->Prop}{env:Env}{Q:Bool->Shared->Prop}:∀ {ifs:List PySem.Expr} {s:Shared},Q false s->wpAny M A (forIn ifs false fun c r=>if r=true then do let ok <- isTrue c env (eval c env);pure (ForInStep.yield ok) else pure (ForInStep.yield r)) Q E s
 | [],_,h=>by rw[forIn_nil];exact wpAny_pure h
 | _::_,_,h=>by
  rw[forIn_cons];exact wpAny_bind (wpAny_pure (Uz h))
theorem TS.cons{c cs}{P:Bool->St->Prop}(h:ET X c B fun b B1=>if b then TS X cs B1 P else P false B1):TS X (c::cs) B P:=fun Z s r=>by
 delta Rg
 rw[forIn_cons];refine wpAny_bind (wpAny_bind (J.use h r fun Z1 s1 B1 b b' x1 r1 h1=>?_));cases r1;cases b with
 | true=>exact wpAny_pure (J.after h1 x1)
 | false=>exact wpAny_pure (Uz (here (b:=false) x1 rfl h1))
noncomputable def IN(X:Cx)(e:PySem.Expr)(k:Nat)(acc:Value)(B:St)(Q:St->Prop):Prop:=
 ∀ Z s (K:Sem Fin) (R:Fin->Shared->Prop),Rel X B Z s->(∀ Z' B' s',Ext X B Z s B' Z' s'->Q B'->wpAny (model X.prog X.w) X.A K R Zm s')->wpAny (model X.prog X.w) X.A (Vn e k acc X.env K) R Zm s
inductive CLJ(X:Cx)(I:Addr)(B:St)(Z:ZM)(s:Shared)(n:Nat)(Inv:Nat->St->Prop)(S:Nat->Heap->Prop)(k:Nat)(s':Shared):Prop
 | mk (i:Nat) (B':St) (Z':ZM) (hk:k=n - i) (hi:i ≤ n) (x:ExtI X I B Z s B' Z' s') (inv:Inv i B') (st:S i s'.heap)
inductive CLK(X:Cx)(I:Addr)(B:St)(Z:ZM)(s:Shared)(its:List V)(S:Nat->Heap->Prop)(i:Nat)(B':St)(v:Value)(s2:Shared):Prop
 | mk (Z2:ZM) (d:V) (hd:its[i]?=some d) (hv:VRel X.prog X.w Z2 d v) (x:ExtI X I B Z s B' Z2 s2) (st:S (i + 1) s2.heap)
theorem CLK.next{I:Addr}{its:List V}{S:Nat->Heap->Prop}{Z₀ Z2 Z6:ZM}{s3 s6:Shared}{B6:St}{Inv:Nat->St->Prop}{i:Nat}(it:Iter X target Z₀ I its S)(hle:Z₀.le Z)(hb:X.base.get? I=none)(hlt:i < its.length)(x2:ExtI X I B Z s B' Z2 s3)(st2:S (i + 1) s3.heap)
  (xx:Ext X B' Z2 s3 B6 Z6 s6) (h6:Inv (i + 1) B6):∃ m,m < its.length - i /\ CLJ X I B Z s its.length Inv S m s6:=by
 refine⟨its.length - (i + 1),Nat.sub_lt_sub_left hlt (lt_succ_self i),i + 1,B6,Z6,rfl,hlt,x2.step hb xx,h6,it.frame _ _ _ st2 fun a o' ha e=>?_⟩;rcases ha with rfl | ha
 ·exact xx.keep _ _ e x2.out fun hh0=>by obtain⟨ob,_,h,_⟩:=hh0;rw[hb] at h;exact nsE h
 ·exact xx.rel.zin _ _ (xx.le _ _ (x2.le _ _ (hle _ _ ha)))
theorem CLK.core{e:PySem.Expr}(hc:X6 e)(has:∀ g ∈ clausesOf e,g.is_async=0){k:Nat}{target iter:PySem.Expr}{ifs:List PySem.Expr}(hg:(clausesOf e)[k]?=some ⟨target,iter,ifs,0⟩)
  {I:Addr} {its:List V} {S:Nat->Heap->Prop} {Z₀:ZM} {acc:Value} (it:Iter X target Z₀ I its S) (hle:Z₀.le Z) (hb:X.base.get? I=none) (Inv:Nat->St->Prop)
  (turn:∀ i d B',its[i]?=some d->Inv i B'->AS X target d B' fun B2=>TS X ifs B2 fun ok B3=>if ok then IN X e k acc B3 (Inv (i + 1)) else Inv (i + 1) B3)
  {R:Result->Shared->Prop} (fin:∀ B' Z' s' h' tk,ExtI X I B Z s B' Z' s'->(∀ a o,a ≠ I->s'.heap.get? a=some o->h'.get? a=some o)->Inv its.length B'->R (.ok .next) {s' with heap:=h',toks:=tk})
  {n:Nat} (hj:CLJ X I B Z s its.length Inv S n s'):wpAny (model X.prog X.w) X.A (compTurn e k (.ref I) acc X.env) (fun fin s''=>match fin with
   | .done f=>R (.ok f) s''
   | .again c'=>c'=.compLoop e k (.ref I) acc X.env /\ ∃ m,m < n /\ CLJ X I B Z s its.length Inv S m s'') Zm s':=by
 obtain⟨i,B',Z',rfl,hi,x,inv,st⟩:=hj;rw[Qq hc has hg];refine wpAny_bind (wpAny_standAt (wpAny_bind ?_))
 by_cases hlt:i < its.length
 ·refine wpAny_mono (it.item i s' Z' (CLK X I B Z s its S i B') hlt st (fun a o h=>x.le _ _ (hle _ _ h)) x.rel.zin x.zI fun v h' tk Z2 d' hd' hv hle' hz' hzn st' hk hex=>⟨Z2,d',hd',hv,x.turn hb hk hex hle' hz' hzn,st'⟩) (fun res s2 h2=>?_) fun _ _ h=>h.elim;obtain⟨v,rfl,h2⟩:=h2;refine wpAny_bind (wpAny_mono h2 (fun _ s3 h3=>?_) fun _ _ h=>h.elim);obtain⟨Z2,d',hd',hv,x2,st2⟩:=h3;refine wpAny_bind (wpAny_mono (turn i d' B' hd' inv Z2 s3 v x2.rel hv) (fun _ s4 q=>?_) fun _ _ h=>h.elim);obtain⟨Z4,B4,_,x4,_,h4⟩:=q;refine wpAny_bind (wpAny_mono (h4 Z4 s4 x4.rel) (fun ok s5 q=>?_) fun _ _ h=>h.elim);obtain⟨Z5,B5,ok',x5,hok,h5⟩:=q;cases hok;cases ok with
  | false=>exact wpAny_pure ⟨rfl,CLK.next it hle hb hlt x2 st2 (x4.trans x5) h5⟩
  | true=>
   refine h5 Z5 s5 _ _ x5.rel fun Z6 B6 s6 x6 h6=>?_;exact wpAny_pure ⟨rfl,CLK.next it hle hb hlt x2 st2 ((x4.trans x5).trans x6) h6⟩
 ·obtain rfl:i=its.length:=le_antisymm hi (le_of_not_lt hlt);refine wpAny_mono (it.done s' (fun s2=>R (.ok .next) s2) st fun h' tk hk=>fin _ _ _ _ _ x hk inv) (fun res s2 h2=>?_) fun _ _ h=>h.elim;obtain⟨rfl,h2⟩:=h2;exact wpAny_pure h2
theorem Rb{e:PySem.Expr}(hc:X6 e)(has:∀ g ∈ clausesOf e,g.is_async=0){k:Nat}{target iter:PySem.Expr}{ifs:List PySem.Expr}(hg:(clausesOf e)[k]?=some ⟨target,iter,ifs,0⟩)
  {I:Addr} {its:List V} {S:Nat->Heap->Prop} {Z₀:ZM} {acc:Value} (it:Iter X target Z₀ I its S) (hle:Z₀.le Z) (r:Rel X B Z s) (hI:∃ o,s.heap.get? I=some o) (hf:I ∉ Z0 X B) (hz:Z I=none) (hb:X.base.get? I=none) (st:S 0 s.heap)
  (Inv:Nat->St->Prop) (inv0:Inv 0 B)
  (turn:∀ i d B',its[i]?=some d->Inv i B'->AS X target d B' fun B2=>TS X ifs B2 fun ok B3=>if ok then IN X e k acc B3 (Inv (i + 1)) else Inv (i + 1) B3)
  {R:Result->Shared->Prop} (fin:∀ B' Z' s' h' tk,ExtI X I B Z s B' Z' s'->(∀ a o,a ≠ I->s'.heap.get? a=some o->h'.get? a=some o)->Inv its.length B'->R (.ok .next) {s' with heap:=h',toks:=tk}):codeAny (model X.prog X.w) X.A (.compLoop e k (.ref I) acc X.env) R s:=by
 have K:=CompK.of hc X.env;refine codeAny_loop (K.quiet ..) (CLJ X I B Z s its.length Inv S) (fun n s' hj=>?_) its.length ⟨0,B,Z,rfl,zero_le _,ExtI.refl r hI hf hz,inv0,st⟩;rw[K.wl];show wpAny _ _ (denote table (.compLoop e k (.ref I) acc X.env)) _ _ s';obtain⟨f,hden⟩:=K.loop k (.ref I) acc;rw[hden];exact wpAny_onRaise (wpAny_mono (CLK.core hc has hg it hle hb Inv turn fin hj) (fun _ _ h=>h) fun _ _ h=>h.elim)
theorem Sd{e:PySem.Expr}(hc:X6 e){k:Nat}{target iter:PySem.Expr}{ifs:List PySem.Expr}(hg:(clausesOf e)[k]?=some ⟨target,iter,ifs,0⟩){I:Addr}{acc:Value}{R:Result->Shared->Prop}
  (h0:codeAny (model X.prog X.w) X.A (.compLoop e k (.ref I) acc X.env) R s) (hself:∀ Q:Value->Shared->Prop,Q (.ref I) s->wpAny (model X.prog X.w) X.A (pyIter (.ref I)) Q Zm s):
  codeAny (model X.prog X.w) X.A (.compStart e k (.ref I) acc X.env) R s:=by
 have K:=CompK.of hc X.env;have hq:=K.quiet k (.ref I) acc;refine codeAny_of_tree ?_;rw[K.ws];show wpAny _ _ (denote table (.compStart e k (.ref I) acc X.env)) _ _ s;rw[K.start];refine wpAny_onRaise (wpAny_mono (E':=fun e s'=>wpAny (model X.prog X.w) X.A (do noteFrame e X.env;standAt theWindowsPlace) (fun _ s''=>R (.error e) s'') (fun e s'=>R (.error e) s') s') (E:=Zm) ?_ (fun _ _ h=>h) fun _ _ h=>h.elim)
 delta compStart
 rw[hg];refine wpAny_bind (wpAny_askSetting (wpAny_ite ?_));split
 ·exact wpAny_bind (wpAny_pure (wpAny_pure (And.intro hq h0)))
 ·refine wpAny_bind (wpAny_rule ?_);exact wpAny_bind (wpAny_standAt (wpAny_bind (hself _ (wpAny_pure (And.intro hq h0)))))
noncomputable def ITERC(X:Cx)(target:PySem.Expr)(B:St)(d:V)(its:List V):Prop:=∀ Z s v (Q:Value->Shared->Prop),Rel X B Z s->VRel X.prog X.w Z d v->
 (∀ o S,o.isFreed=false->Iter X target Z s.heap.objs.size its S->(∀ i s' (A:Around) (Q:Value->Shared->Prop),S i s'.heap->Q (.ref s.heap.objs.size) s'->wpAny (model X.prog X.w) A (pyIter (.ref s.heap.objs.size)) Q Zm s')->S 0 (s.heap.push o)->Q (.ref s.heap.objs.size) {s with heap:=s.heap.push o})->wpAny (model X.prog X.w) X.A (pyIter v) Q Zm s
variable{target:PySem.Expr}
theorem ITERC.list{l:List V}(hA:X.A.handled=none):ITERC X target B (.list l) l:=fun Z s v Q r hv k=>by
 obtain⟨a,its,n,rfl,ha,hr⟩:=hv;have ho:=r.zin _ _ ha;exact wpAny_pyIter_list ⟨_,ho,rfl,n,rfl⟩ (k _ _ rfl (Iter.ofList hA ha hr) (fun i s' A Q h hq=>wpAny_pyIter_listiter h.1 hq) ⟨⟨_,get?_push_size _ rfl,rfl,rfl⟩,get?_push_of_some _ ho⟩)
theorem ITERC.tup{l:List V}(hA:X.A.handled=none):ITERC X target B (.tup l) l:=fun Z s v Q r hv k=>by
 obtain⟨a,its,n,rfl,ha,hr⟩:=hv;have ho:=r.zin _ _ ha;exact wpAny_pyIter_tuple ⟨_,ho,rfl,n,rfl⟩ (k _ _ rfl (Iter.ofTup hA ha hr) (fun i s' A Q h hq=>wpAny_pyIter_tupleiter h.1 hq) ⟨⟨_,get?_push_size _ rfl,rfl,rfl⟩,get?_push_of_some _ ho⟩)
theorem ITERC.str{x:Str}(hA:X.A.handled=none):ITERC X target B (.str x) (Tr x):=fun Z s v Q r hv k=>by
 obtain⟨t,rfl⟩:=hv;refine wpAny_pyIter_strU (k _ _ rfl (Iter.ofStr hA) (fun i s' A Q h hq=>?_) ⟨_,get?_push_size _ rfl,rfl,rfl⟩)
 revert h
 delta strIterType
 split
 ·intro h;exact wpAny_pyIter_striter_ascii h hq
 ·intro h;exact wpAny_pyIter_striter_wide h hq
theorem ITERC.rng{a b:Int}(hA:X.A.handled=none)(hs:Builtin.Range.small a b 1=true):ITERC X target B (.rng a b) (Uk a b):=fun Z s v Q r hv k=>by
 obtain⟨p,t,u,x,rfl,ha⟩:=hv;have ho:=r.zin _ _ ha;refine wpAny_pyIter_range ho hs (k _ _ rfl (Iter.ofRange hA) (fun i s' A Q h hq=>wpAny_pyIter_rangeiter h hq) ?_);have e1:a + ((0:Nat):Int)=a:=by exact sub_zero _
 have e2:((b - a).toNat:Int) - ((0:Nat):Int)=((b - a).toNat:Int):=by rfl
 rw[Vr,e1,e2];exact get?_push_size _ rfl
theorem IN.more{e:PySem.Expr}(hc:X6 e)(has:∀ g ∈ clausesOf e,g.is_async=0){k:Nat}{iter:PySem.Expr}{ifs:List PySem.Expr}{acc:Value}{Q:St->Prop}(hg:(clausesOf e)[k + 1]?=some ⟨target,iter,ifs,0⟩)
  (h:EV X iter B fun d B1=>∃ its,ITERC X target B1 d its /\ ∃ Inv:Nat->St->Prop,Inv 0 B1 ∧
   (∀ i di B2,its[i]?=some di->Inv i B2->AS X target di B2 fun B3=>TS X ifs B3 fun ok B4=>if ok then IN X e (k + 1) acc B4 (Inv (i + 1)) else Inv (i + 1) B4) ∧
   (∀ B2,Inv its.length B2->Q B2))
  (hs:∀ env x,foldedSetIterable iter env x=pure x:=by intro _ _;rfl):IN X e k acc B Q:=fun Z s K R r hK=>by
 delta Vn
 rw[hg];refine wpAny_bind (J.use h r fun Z1 s1 B1 d v x1 r1 h1=>?_);obtain⟨its,hit,Inv,inv0,turn,fin⟩:=h1;refine wpAny_bind (wpAny_standAt ?_);rw[hs];refine wpAny_bind (wpAny_pure (wpAny_bind (wpAny_holding (hit Z1 s1 v _ x1.rel r1 fun o S hof it hself st0=>?_))));have r1':=x1.rel;have fresh:s1.heap.get? s1.heap.objs.size=none:=get?_none_of_le (le_refl _);have y:=(Ext.refl r1').push o
 have nb:X.base.get? s1.heap.objs.size=none:=by
  refine Zb fun o' e'=>?_;obtain⟨o2,h2⟩:=r1'.old.there _ _ e';rw[fresh] at h2;exact nsE h2
 have nf:s1.heap.objs.size ∉ Z0 X B1:=fun hm=>absurd (r1'.lt _ hm) (lt_irrefl _)
 have nz:Z1 s1.heap.objs.size=none:=by
  refine Zb fun o2 e'=>?_;rw[r1'.zin _ _ e'] at fresh;exact snE fresh
 refine wpAny_bind (wpAny_runOwn (h:=none) ?_);refine Sd hc hg (Rb hc has hg it (fun _ _ h=>h) y.rel ⟨o,get?_push_size _ hof⟩ nf nz nb st0 Inv inv0 turn fun B' Z' s' h' tk x hk inv=>?_) fun Q hq=>hself 0 _ _ _ st0 hq
 have nn:∀ a,(s1.heap.push o).get? a=none->s1.heap.get? a=none:=fun a h=>by
  refine Zb fun o2 e'=>?_;rw[get?_push_of_some _ e'] at h;exact snE h
 have x0:Ext X B1 Z1 s1 B' Z' s':=⟨x.rel,x.le,fun a o' e' hf ht=>x.keep a o' (get?_push_of_some _ e') hf ht (fun h=>by rw[h,fresh] at e';exact nsE e'),fun a ha=>(x.new a ha).imp id (nn a),fun a o' hz'=>(x.znew a o' hz').imp id (Or.imp id (nn a))⟩
 have x2:=Ext.butI (tk:=tk) r1' x0 fresh x.out hk (fun _ _ h=>h) (fun a o' e'=>hk _ _ (fun h=>by rw[h,x.zI] at e';exact nsE e') (x0.rel.zin _ _ e')) fun _ _ h=>.inl h;exact hK _ _ _ (x1.trans x2) (fin _ inv)
theorem IN.append{elt gens scope pos k}{D:Addr}{Q:St->Prop}(hg:gens[k + 1]?=none)
  (h:EV X elt B fun d B1=>∃ l,(D,Cell.list l) ∈ B1.mem /\ l.length ≤ sizeLine /\ ∃ mem',UpM D (.list (l++[d])) B1.mem mem' /\ Q {B1 with mem:=mem'}):IN X (.ListComp elt gens scope pos) k (.ref D) B Q:=fun Z s K R r hK=>by
 delta Vn
 have hg':(clausesOf (PySem.Expr.ListComp elt gens scope pos))[k + 1]?=none:=hg;rw[hg'];refine wpAny_bind (wpAny_bind (J.use h r fun Z1 s1 B1 d v x1 r1 h1=>?_));obtain⟨l,hm,hsz,mem',hu,hq⟩:=h1;obtain⟨its,hp,hr⟩:=x1.rel.mem _ hm;have hsz':its.size=l.length:=by rw[<- hr.length];simp
 refine wpAny_bind (wpAny_list_append_plain hp (fun h' hp' hs=>?_) (by exact(le_trans (le_of_eq hsz') hsz)));refine wpAny_pure (hK _ _ _ (x1.trans (x1.rel.setMem hu hs ⟨_,hp',?_⟩)) hq);rw[Array.toList_push];exact hr.append ⟨v,[],rfl,r1,rfl⟩
theorem Ext.freeze(x:Ext X B Z s B' Z' s'){m1 m2:List (Addr × Cell)}{D:Addr}{c:Cell}(hm:B'.mem=m1++(D,c)::m2){o:Obj}(ho:s'.heap.get? D=some o):
  Ext X B Z s {B' with mem:=m1++m2} (Zput Z' D o) s' /\ Z'.le (Zput Z' D o):=by
 have r:=x.rel;have hD:D ∈ keys B'.mem:=by rw[hm];exact Qg
 have hDf:D ∈ Z0 X B':=by delta Z0;exact mem_cons_of_mem _ (mem_append_right _ hD)
 have le:Z'.le (Zput Z' D o):=Zput.le fun o' e=>by rw[r.zfoot D hDf] at e;exact nsE e
 have e1:keys B'.mem=keys m1++D::keys m2:=by rw[hm];exact Y2 ..
 have e2:keys (m1++m2)=keys m1++keys m2:=by exact Y2 ..
 have sub:∀ a ∈ keys (m1++m2),a ∈ keys B'.mem:=fun a ha=>by
  rw[e2] at ha;rw[e1];rcases mem_append.mp ha with h | h
  ·exact mem_append_left _ h
  ·exact mem_append_right _ (mem_cons_of_mem _ h)
 have fsub:∀ a ∈ Z0 X {B' with mem:=m1++m2},a ∈ Z0 X B':=fun a ha=>by
  delta Z0 at ha ⊢
  rcases mem_cons.mp ha with h | h
  ·exact h ▸ mem_cons_self
  ·rcases mem_append.mp h with h | h
   ·exact mem_cons_of_mem _ (mem_append_left _ h)
   ·exact mem_cons_of_mem _ (mem_append_right _ (sub a h))
 have nd:=r.nd
 have ndD:D ∉ Z0 X {B' with mem:=m1++m2}:=fun hf=>by
  delta Z0 at nd hf
  rw[e1] at nd;have n1:=nodup_cons.mp nd;have n2:=nodup_append.mp n1.2;have n3:=nodup_append.mp n2.2.1;rcases mem_cons.mp hf with h | h
  ·exact n1.1 (h ▸ mem_append_right _ (mem_append_right _ mem_cons_self))
  ·rcases mem_append.mp h with h | h
   ·exact n2.2.2 D h D (mem_append_right _ mem_cons_self) rfl
   ·rw[e2] at h;rcases mem_append.mp h with h | h
    ·exact n3.2.2 D h D mem_cons_self rfl
    ·exact(nodup_cons.mp n3.2.1).1 h
 refine⟨⟨⟨⟨r.fr.lnd,r.fr.lk,r.fr.ck,r.fr.cnd,r.fr.cinj,r.fr.pk,r.fr.dbg,r.fr.kind⟩,fun a o' e=>?_,fun a o' e ht=>le _ _ (r.st a o' e ht),fun a ha=>?_,r.old,r.os,r.gens,?_,?_,?_,r.ownc,?_,?_,?_,fun a ha=>r.bfoot a (fsub a ha),fun a ha=>r.ex a (fsub a ha),(let ⟨o3,h3⟩:=r.g3;⟨o3,le _ _ h3⟩),fun a ha=>r.low a (sub a ha)⟩,fun a o' e=>le _ _ (x.le a o' e),x.keep,fun a ha=>x.new a (sub a ha),fun a o' e=>?_⟩,le⟩
 ·unfold Zput at e;split at e
  ·subst_vars;cases e;exact ho
  ·exact r.zin _ _ e
 ·delta Zput
  split
  ·rename_i h;obtain⟨ob,_,hb,_⟩:=ha;rw[h,r.bfoot D hDf] at hb;exact nsE hb
  ·exact r.ztab a ha
 ·obtain⟨m,hn,hm'⟩:=r.ns;exact⟨m,hn,fun y ov h=>(hm' y ov h).mono le⟩
 ·intro y ov hy;obtain⟨c',uo,hw,hc,hv,hr⟩:=r.cells y ov hy;exact⟨c',uo,hw,hc,hv,hr.mono le⟩
 ·intro y d hy;obtain⟨c',oc,v,hc,hz,hd,hr⟩:=r.cap y d hy;exact⟨c',oc,v,hc,le _ _ hz,hd,hr.mono le⟩
 ·intro p hp;refine(r.mem p ?_).mono le (fun _ e=>e);rw[hm];rcases mem_append.mp hp with h | h
  ·exact mem_append_left _ h
  ·exact mem_append_right _ (mem_cons_of_mem _ h)
 ·unfold Z0 at nd ⊢;rw[e1] at nd;rw[show keys ({B' with mem:=m1++m2}:St).mem=keys m1++keys m2 from e2];have n1:=nodup_cons.mp nd;have n2:=nodup_append.mp n1.2;have n3:=nodup_append.mp n2.2.1;refine nodup_cons.mpr ⟨fun h=>n1.1 ?_,nodup_append.mpr ⟨n2.1,nodup_append.mpr ⟨n3.1,(nodup_cons.mp n3.2.1).2,fun a ha b hb=>n3.2.2 a ha b (mem_cons_of_mem _ hb)⟩,fun a ha b hb=>n2.2.2 a ha b ?_⟩⟩
  ·rcases mem_append.mp h with h | h
   ·exact mem_append_left _ h
   ·rcases mem_append.mp h with h | h
    ·exact mem_append_right _ (mem_append_left _ h)
    ·exact mem_append_right _ (mem_append_right _ (mem_cons_of_mem _ h))
  ·rcases mem_append.mp hb with h | h
   ·exact mem_append_left _ h
   ·exact mem_append_right _ (mem_cons_of_mem _ h)
 ·intro a ha
  delta Zput
  split
  ·rename_i h;rw[h] at ha;exact absurd ha ndD
  ·exact r.zfoot a (fsub a ha)
 ·unfold Zput at e;split at e
  ·rename_i h;rw[h];exact .inr (x.new _ hD)
  ·exact x.znew _ _ e
end
noncomputable def Zj(cells:List (Str × Addr)):List (Str × NameKind)->List (Str × Addr)->List (Str × Addr)
 | [],acc=>acc
 | (n,k)::r,acc=>if k == .free then (match cells.lookup n with
   | some c=>Zj cells r ((n,c)::acc)
   | none=>Zj cells r acc) else Zj cells r acc
theorem Xh{cells:List (Str × Addr)}{n k r acc}{c:Addr}(h:(k == NameKind.free)=true)(hc:cells.lookup n=some c):Zj cells ((n,k)::r) acc=Zj cells r ((n,c)::acc):=by
 show(if (k == NameKind.free)=true then (match cells.lookup n with | some c=>Zj cells r ((n,c)::acc) | none=>Zj cells r acc) else Zj cells r acc)=_;rw[if_pos h,hc]
theorem Uc{cells:List (Str × Addr)}{n k r acc}(hc:cells.lookup n=none):Zj cells ((n,k)::r) acc=Zj cells r acc:=by
 show(if (k == NameKind.free)=true then (match cells.lookup n with | some c=>Zj cells r ((n,c)::acc) | none=>Zj cells r acc) else Zj cells r acc)=_;rw[hc];exact ite_self _
theorem Wq{cells:List (Str × Addr)}{n k r acc}(h:¬ (k == NameKind.free)=true):Zj cells ((n,k)::r) acc=Zj cells r acc:=if_neg h
theorem Sv{scope:Scope}{env:Env}(h:∀ x ∈ scope.names,x.2=.free->(env.cells.lookup x.1).isSome=true):closureFor scope env=pure (Zj env.cells scope.names []):=by
 haveI key:∀ (names:List (Str × NameKind)) (acc:List (Str × Addr)),(∀ x ∈ names,x.2=.free->(env.cells.lookup x.1).isSome=true)->
   (forIn names acc fun(x:Str × NameKind) (cs:List (Str × Addr))=>(match x with | (name,kind)=>if kind == .free then (do let a <- cellOf env name;pure (ForInStep.yield ((name,a)::cs))) else pure (ForInStep.yield cs):Sem _))=pure (Zj env.cells names acc):=by
  intro names
  induction names with
  | nil=>intro acc _;rfl
  | cons p names ih=>
   intro acc hh;obtain⟨n,k⟩:=p;rw[forIn_cons]
   haveI hi:∀ acc,_:=fun acc=>ih acc fun x hx=>hh x (.tail _ hx)
   by_cases hk:(k == .free)=true
   ·obtain⟨c,hc⟩:=Option.isSome_iff_exists.mp (hh (n,k) (.head _) (beq_iff_eq.mp hk))
    haveI hc':env.cells.lookup n=some c:=hc
    rw[Xh hk hc',<- hi];dsimp only;rw[if_pos hk,cellOf,hc'];rfl
   ·rw[Wq hk,<- hi];dsimp only;rw[if_neg hk];rfl
 unfold closureFor;exact congrArg (fun t=>Sem.bind t _) (key scope.names [] h)
theorem X0{cells:List (Str × Addr)}:∀ (names:List (Str × NameKind)) (acc:List (Str × Addr)) (x:Str),x ∉ names.map (·.1)->(Zj cells names acc).lookup x=acc.lookup x
 | [],_,_,_=>rfl
 | (n,k)::r,acc,x,h=>by
  simp only[map_cons,mem_cons,not_or] at h
  by_cases hk:(k == .free)=true
  ·cases hc:cells.lookup n with
   | none=>rw[Uc hc];exact X0 r _ x h.2
   | some c=>
    rw[Xh hk hc,X0 r _ x h.2,lookup_cons,beq_false_of_ne h.1]
  ·rw[Wq hk];exact X0 r _ x h.2
theorem W4{cells:List (Str × Addr)}:∀ (names:List (Str × NameKind)) (acc:List (Str × Addr)) (x:Str) (c:Addr),(names.map (·.1)).Nodup->(x,NameKind.free) ∈ names->cells.lookup x=some c->(Zj cells names acc).lookup x=some c
 | [],_,_,_,_,h,_=>by exact mnE h
 | (n,k)::r,acc,x,c,nd,h,hc=>by
  simp only[map_cons,nodup_cons] at nd;rcases mem_cons.mp h with e | h
  ·cases e;rw[Xh rfl hc,X0 r _ n nd.1,lookup_cons,beq_self_eq_true]
  ·by_cases hk:(k == .free)=true
   ·cases hl:cells.lookup n with
    | none=>rw[Uc hl];exact W4 r _ x c nd.2 h hc
    | some _=>rw[Xh hk hl];exact W4 r _ x c nd.2 h hc
   ·rw[Wq hk];exact W4 r _ x c nd.2 h hc
theorem Zr:∀ (names:List (Str × NameKind)) (n:Nat) (acc:List (Str × Addr)),cellsFrom n names acc=cellsFrom n names []++acc
 | [],_,_=>rfl
 | (nm,k)::r,n,acc=>by
  unfold cellsFrom;split
  ·rw[Zr r (n + 1) ((nm,n)::acc),Zr r (n + 1) [(nm,n)]];simp
  ·exact Zr r n acc
theorem Xk{l l':List (Str × Addr)}{x:Str}:(l++l').lookup x=(l.lookup x).or (l'.lookup x):=by
 induction l with
 | nil=>rfl
 | cons p l ih=>
  obtain⟨y,a⟩:=p;rw[List.cons_append,lookup_cons,lookup_cons];split
  ·rfl
  ·exact ih
theorem Xa:∀ (names:List (Str × NameKind)) (n:Nat) (x:Str),(x,NameKind.cell) ∉ names->(cellsFrom n names []).lookup x=none
 | [],_,_,_=>rfl
 | (nm,k)::r,n,x,h=>by
  simp only[mem_cons,not_or] at h;unfold cellsFrom;split
  ·rename_i hk;rw[Zr,Xk,Xa r (n + 1) x h.2];rw[lookup_cons];split
   ·rename_i e;exact absurd (by rw[beq_iff_eq.mp e,beq_iff_eq.mp hk]) h.1
   ·rfl
  ·exact Xa r n x h.2
inductive ScL(cel:List (Str × Option V))(cap:List (Str × V)):List (Str × NameKind)->List (Str × Option V)->List (Str × Option V)->List (Str × V)->Prop
 | nil:ScL cel cap [] [] [] []
 | loc {n r l c p}:ScL cel cap r l c p->ScL cel cap ((n,.local)::r) ((n,none)::l) c p
 | cell {n r l c p}:ScL cel cap r l c p->ScL cel cap ((n,.cell)::r) l ((n,none)::c) p
 | glob {n r l c p}:ScL cel cap r l c p->ScL cel cap ((n,.globalImplicit)::r) l c p
 | cap {n d r l c p}:(n,d) ∈ cap->ScL cel cap r l c p->ScL cel cap ((n,.free)::r) l c ((n,d)::p)
 | cel {n d r l c p}:(n,some d) ∈ cel->ScL cel cap r l c p->ScL cel cap ((n,.free)::r) l c ((n,d)::p)
namespace ScL
variable{cel:List (Str × Option V)}{cap:List (Str × V)}{names:List (Str × NameKind)}{l c:List (Str × Option V)}{p:List (Str × V)}
theorem locs(h:ScL cel cap names l c p):∀ x ov,(x,ov) ∈ l->(x,NameKind.local) ∈ names /\ ov=none:=by
 induction h with
 | nil=>intro x ov h;exact mnE h
 | loc _ ih=>
  intro x ov hx;rcases mem_cons.mp hx with e | hx
  ·cases e;exact⟨.head _,rfl⟩
  ·exact⟨.tail _ (ih x ov hx).1,(ih x ov hx).2⟩
 | cell _ ih=>intro x ov hx;exact⟨.tail _ (ih x ov hx).1,(ih x ov hx).2⟩
 | glob _ ih=>intro x ov hx;exact⟨.tail _ (ih x ov hx).1,(ih x ov hx).2⟩
 | cap _ _ ih=>intro x ov hx;exact⟨.tail _ (ih x ov hx).1,(ih x ov hx).2⟩
 | cel _ _ ih=>intro x ov hx;exact⟨.tail _ (ih x ov hx).1,(ih x ov hx).2⟩
theorem cells(h:ScL cel cap names l c p):∀ x ov,(x,ov) ∈ c->(x,NameKind.cell) ∈ names /\ ov=none:=by
 induction h with
 | nil=>intro x ov h;exact mnE h
 | cell _ ih=>
  intro x ov hx;rcases mem_cons.mp hx with e | hx
  ·cases e;exact⟨.head _,rfl⟩
  ·exact⟨.tail _ (ih x ov hx).1,(ih x ov hx).2⟩
 | loc _ ih=>intro x ov hx;exact⟨.tail _ (ih x ov hx).1,(ih x ov hx).2⟩
 | glob _ ih=>intro x ov hx;exact⟨.tail _ (ih x ov hx).1,(ih x ov hx).2⟩
 | cap _ _ ih=>intro x ov hx;exact⟨.tail _ (ih x ov hx).1,(ih x ov hx).2⟩
 | cel _ _ ih=>intro x ov hx;exact⟨.tail _ (ih x ov hx).1,(ih x ov hx).2⟩
theorem caps(h:ScL cel cap names l c p):∀ x d,(x,d) ∈ p->(x,NameKind.free) ∈ names /\ ((x,d) ∈ cap \/ (x,some d) ∈ cel):=by
 induction h with
 | nil=>intro x ov h;exact mnE h
 | cap hd _ ih=>
  intro x ov hx;rcases mem_cons.mp hx with e | hx
  ·cases e;exact⟨.head _,.inl hd⟩
  ·exact⟨.tail _ (ih x ov hx).1,(ih x ov hx).2⟩
 | cel hd _ ih=>
  intro x ov hx;rcases mem_cons.mp hx with e | hx
  ·cases e;exact⟨.head _,.inr hd⟩
  ·exact⟨.tail _ (ih x ov hx).1,(ih x ov hx).2⟩
 | loc _ ih=>intro x ov hx;exact⟨.tail _ (ih x ov hx).1,(ih x ov hx).2⟩
 | glob _ ih=>intro x ov hx;exact⟨.tail _ (ih x ov hx).1,(ih x ov hx).2⟩
 | cell _ ih=>intro x ov hx;exact⟨.tail _ (ih x ov hx).1,(ih x ov hx).2⟩
theorem lkeys(h:ScL cel cap names l c p):(l.map (·.1)).Sublist (names.map (·.1)):=by
 induction h with
 | nil=>exact .slnil
 | loc _ ih=>exact .cons_cons _ ih
 | cell _ ih=>exact .cons _ ih
 | glob _ ih=>exact .cons _ ih
 | cap _ _ ih=>exact .cons _ ih
 | cel _ _ ih=>exact .cons _ ih
theorem ckeys(h:ScL cel cap names l c p):(c.map (·.1)).Sublist (names.map (·.1)):=by
 induction h with
 | nil=>exact .slnil
 | cell _ ih=>exact .cons_cons _ ih
 | loc _ ih=>exact .cons _ ih
 | glob _ ih=>exact .cons _ ih
 | cap _ _ ih=>exact .cons _ ih
 | cel _ _ ih=>exact .cons _ ih
theorem pkeys(h:ScL cel cap names l c p):(p.map (·.1)).Sublist (names.map (·.1)):=by
 induction h with
 | nil=>exact .slnil
 | cell _ ih=>exact .cons _ ih
 | loc _ ih=>exact .cons _ ih
 | glob _ ih=>exact .cons _ ih
 | cap _ _ ih=>exact .cons_cons _ ih
 | cel _ _ ih=>exact .cons_cons _ ih
end ScL
noncomputable def Zc(names:List (Str × NameKind)):Bool:=decide (names.map (·.1)).Nodup && names.all fun p=>!(p.1 == ("__debug__" :Str)) && !(p.1 == ("__classdict__" :Str))
theorem Vt{names:List (Str × NameKind)}(hok:Zc names=true):(names.map (·.1)).Nodup /\ ∀ p ∈ names,(p.1 == ("__debug__" :Str))=false /\ (p.1 == ("__classdict__" :Str))=false:=by
 simpa only [Zc,and_eq_true,decide_eq_true_eq,all_eq_true,Bool.not_eq_true'] using hok
theorem Yk{β:Type}{l:List (Str × β)}(nd:(l.map (·.1)).Nodup){x:Str}{b:β}(h:(x,b) ∈ l):l.lookup x=some b:=by
 induction l with
 | nil=>exact mnE h
 | cons p l ih=>
  obtain⟨y,c⟩:=p;simp only[map_cons,nodup_cons] at nd;rw[lookup_cons];rcases mem_cons.mp h with e | h
  ·cases e;rw[beq_self_eq_true]
  ·split
   ·rename_i e;exact absurd (mem_map_of_mem (f:=(·.1)) h) (beq_iff_eq.mp e ▸ nd.1)
   ·exact ih nd.2 h
theorem W7{β γ:Type}(f:Str->β->γ)(x:Str):∀ l:List (Str × β),(l.map fun p=>(p.1,f p.1 p.2)).lookup x=(l.lookup x).map (f x)
 | []=>rfl
 | (n,k)::r=>by
  rw[map_cons,lookup_cons,lookup_cons];split
  ·rename_i e;haveI:=beq_iff_eq.mp e;subst this;simp
  ·rename_i e;simp only[e];exact W7 f x r
theorem Tx{scope:Scope}{env:Env}{x:Str}:(relabel scope env).names.lookup x=(scope.names.lookup x).map fun k=>if (k == .free && env.scope.kind == .function && env.kindOf x == some .cell) then .cell else k:=by
 haveI e:(relabel scope env).names=scope.names.map fun p=>(p.1,(fun x k=>if (k == NameKind.free && env.scope.kind == .function && env.kindOf x == some .cell) then NameKind.cell else k) p.1 p.2):=by
  unfold relabel;refine congrArg (fun f=>List.map f scope.names) (funext fun p=>?_);obtain⟨n,k⟩:=p;dsimp only;split <;> rfl
 rw[e];exact W7 (fun x k=>if (k == NameKind.free && env.scope.kind == .function && env.kindOf x == some .cell) then NameKind.cell else k) x _
section
variable{X:Cx}{B B' B'':St}{Z Z' Z'':ZM}{s s' s'':Shared}{P:V->St->Prop}
noncomputable def Xg(env:Env)(scope:Scope)(C:Addr):Env:={scope:=relabel scope env,locals:=C,globals:=env.globals,cells:=cellsFrom (C + 1) scope.names (Zj env.cells scope.names []),qual:=env.qual,func:=none,code:=env.code,frame:=env.frame,builtins:=env.builtins}
noncomputable def Cx.comp(X:Cx)(scope:Scope)(C:Addr):Cx:={X with env:=Xg X.env scope C,own:=(cellsFrom (C + 1) scope.names []).map (·.2)}
noncomputable def Xw(X:Cx)(h:Heap)(Z:ZM):ZM:=fun a=>if a ∈ X.own then h.get? a else Z a
theorem Pr(r:Rel X B Z s){scope:Scope}{locc celc:List (Str × Option V)}{capc:List (Str × V)}(hL:ScL B.cel B.cap scope.names locc celc capc)(hok:Zc scope.names=true)(hk:scope.kind=.function):
  Rel (X.comp scope s.heap.objs.size) ⟨locc,celc,capc,B.mem⟩ (Xw X s.heap Z) {s with heap:=pushCells (s.heap.push {cls:=.type "dict",data:=.dict #[]}) scope.names} ∧
  (∀ b o,s.heap.get? b=some o->(pushCells (s.heap.push {cls:=.type "dict",data:=.dict #[]}) scope.names).get? b=some o) /\ Z.le (Xw X s.heap Z) ∧
  (∀ a o,Xw X s.heap Z a=some o->Z a=some o \/ (a ∈ X.own /\ ∃ v,o.data=.cell v)) ∧
  (∀ b ∈ Z0 (X.comp scope s.heap.objs.size) ⟨locc,celc,capc,B.mem⟩,b ∈ keys B.mem \/ s.heap.get? b=none):=by
 obtain⟨hnn,hdb⟩:=Vt hok;generalize hC:s.heap.objs.size=C;generalize hh₁:s.heap.push {cls:=.type "dict",data:=.dict #[]}=h₁;have sz₁:h₁.objs.size=C + 1:=by rw[<- hh₁,size_push,hC]
 have k1:∀ b o,s.heap.get? b=some o->h₁.get? b=some o:=fun b o e=>by rw[<- hh₁];exact get?_push_of_some _ e
 have k2:∀ b o,s.heap.get? b=some o->(pushCells h₁ scope.names).get? b=some o:=fun b o e=>pushCells_keeps _ _ _ _ (k1 b o e);have getC:h₁.get? C=some {cls:=.type "dict",data:=.dict #[]}:=by rw[<- hh₁,<- hC];exact get?_push_size _ rfl
 have okA:CellsOk (pushCells h₁ scope.names) (C + 1) (cellsFrom (C + 1) scope.names []):=by
  have:=cellsFrom_ok scope.names h₁ (C + 1) [] ⟨(fun _ _ h=>by exact mnE h),List.Pairwise.nil⟩ (by rw[sz₁];exact le_refl _);rw[sz₁] at this;exact this
 have abA:∀ c ∈ (cellsFrom (C + 1) scope.names []).map (·.2),C < c /\ ∃ uo,(pushCells h₁ scope.names).IsCell c uo:=fun c hc=>by
  obtain⟨p,hp,rfl⟩:=mem_map.mp hc;exact⟨(okA.empty p.1 p.2 hp).2,_,(okA.empty p.1 p.2 hp).1⟩
 have ltC:∀ b o,s.heap.get? b=some o->b < C:=fun b o e=>hC ▸ lt_size e
 have gone:∀ b,C ≤ b->s.heap.get? b=none:=fun b hb=>by
  refine Zb fun o e=>?_;exact absurd (ltC _ _ e) (not_lt.mpr hb)
 have inC:∀ c ∈ X.own,c ∈ Z0 X B:=fun c hc=>mem_cons_of_mem _ (mem_append_left _ hc);have inK:∀ c ∈ keys B.mem,c ∈ Z0 X B:=fun c hc=>mem_cons_of_mem _ (mem_append_right _ hc);have nd:=r.nd;unfold Z0 at nd;have n1:=nodup_cons.mp nd;have n2:=nodup_append.mp n1.2
 have le:Z.le (Xw X s.heap Z):=fun a o e=>by
  unfold Xw;split
  ·rename_i h;rw[r.zfoot a (inC a h)] at e;exact nsE e
  ·exact e
 have zin:∀ a o,Xw X s.heap Z a=some o->s.heap.get? a=some o:=fun a o e=>by
  unfold Xw at e;split at e
  ·exact e
  ·exact r.zin _ _ e
 have footc:∀ b ∈ Z0 (X.comp scope C) ⟨locc,celc,capc,B.mem⟩,b=C \/ b ∈ (cellsFrom (C + 1) scope.names []).map (·.2) \/ b ∈ keys B.mem:=fun b hb=>by
  rcases mem_cons.mp hb with h | hb
  ·exact .inl h
  ·rcases mem_append.mp hb with h | h
   ·exact .inr (.inl h)
   ·exact .inr (.inr h)
 have footc2:∀ b ∈ Z0 (X.comp scope C) ⟨locc,celc,capc,B.mem⟩,b ∈ keys B.mem \/ s.heap.get? b=none:=fun b hb=>by
  rcases footc b hb with rfl | h | h
  ·exact .inr (gone _ (le_refl _))
  ·exact .inr (gone _ (le_of_lt (abA b h).1))
  ·exact .inl h
 have lkl:∀ x k,(x,k) ∈ scope.names->(Xg X.env scope C).kindOf x=some (if (k == .free && X.env.scope.kind == .function && X.env.kindOf x == some .cell) then .cell else k):=fun x k hx=>by
  show(relabel scope X.env).names.lookup x=_;rw[Tx,Yk hnn hx];rfl
 have keyin:∀ x,x ∈ locc.map (·.1)++(celc.map (·.1)++capc.map (·.1))->x ∈ scope.names.map (·.1):=fun x hx=>by
  rcases mem_append.mp hx with h | h
  ·exact hL.lkeys.subset h
  ·rcases mem_append.mp h with h | h
   ·exact hL.ckeys.subset h
   ·exact hL.pkeys.subset h
 have cellsLk:∀ x,(x,NameKind.cell) ∈ scope.names->∃ c,(cellsFrom (C + 1) scope.names []).lookup x=some c /\ (Xg X.env scope C).cells.lookup x=some c:=fun x hx=>by
  obtain⟨c,hc⟩:=Option.isSome_iff_exists.mp (Yd (n:=C + 1) (Yk hnn hx));refine⟨c,hc,?_⟩;show(cellsFrom (C + 1) scope.names (Zj X.env.cells scope.names [])).lookup x=some c;rw[Zr,Xk,hc];rfl
 refine⟨⟨⟨hL.lkeys.nodup hnn,fun p hp=>?_,fun p hp=>?_,hL.ckeys.nodup hnn,fun x y c hx hy h1 h2=>?_,fun p hp=>?_,fun x hx=>?_,hk⟩,fun a o e=>k2 _ _ (zin a o e),fun a o e ht=>le _ _ (r.st a o e ht),fun a ha=>?_,r.old.step_keeps k2,r.os,r.gens,
  ⟨fun _=>none,?_,fun x ov hx=>?_⟩,fun x ov hx=>?_,fun x d hx=>?_,fun c hc=>(abA c hc).2,fun p hp=>?_,?_,fun b hb=>?_,fun b hb=>?_,fun b hb=>?_,(let ⟨o3,h3⟩:=r.g3;⟨o3,le _ _ h3⟩),r.low⟩,k2,le,fun a o e=>?_,footc2⟩
 ·obtain⟨x,ov⟩:=p;exact(lkl x _ (hL.locs x ov hp).1).trans rfl
 ·obtain⟨x,ov⟩:=p;exact(lkl x _ (hL.cells x ov hp).1).trans rfl
 ·obtain⟨p,hp,rfl⟩:=mem_map.mp hx;obtain⟨q,hq,rfl⟩:=mem_map.mp hy;obtain⟨c1,e1,e1'⟩:=cellsLk p.1 (hL.cells p.1 p.2 hp).1;obtain⟨c2,e2,e2'⟩:=cellsLk q.1 (hL.cells q.1 q.2 hq).1;have h1':(Xg X.env scope C).cells.lookup p.1=some c:=h1;have h2':(Xg X.env scope C).cells.lookup q.1=some c:=h2;rw[e1'] at h1';cases h1';rw[e2'] at h2';cases h2';exact Uu okA.apart e1 e2
 ·obtain⟨x,d⟩:=p;rw[show(X.comp scope C).env.kindOf x=_ from lkl x _ (hL.caps x d hp).1];split
  ·exact .inl rfl
  ·exact .inr rfl
 ·obtain⟨p,hp,rfl⟩:=mem_map.mp (keyin x hx);exact hdb p hp
 ·unfold Xw;split
  ·rename_i h;obtain⟨ob,_,e,_⟩:=ha;have hb:=r.bfoot a (inC a h);rw[show X.base.get? a=some ob from e] at hb;exact snE hb
  ·exact r.ztab a ha
 ·exact⟨_,#[],0,pushCells_keeps _ _ _ _ getC,rfl,fun e he=>by simp at he,fun name=>rfl⟩
 ·rw[(hL.locs x ov hx).2];trivial
 ·obtain⟨hx1,rfl⟩:=hL.cells x ov hx;obtain⟨c,e1,e2⟩:=cellsLk x hx1;exact⟨c,none,mem_map.mpr ⟨(x,c),Yu e1,rfl⟩,e2,(okA.empty x c (Yu e1)).1,trivial⟩
 ·obtain⟨hx1,hx2⟩:=hL.caps x d hx
  have nocell:(x,NameKind.cell) ∉ scope.names:=fun h=>by
   have a1:=Yk hnn h;rw[Yk hnn hx1] at a1;exact(nomatch a1)
  have lk:∀ c,X.env.cells.lookup x=some c->(Xg X.env scope C).cells.lookup x=some c:=fun c hc=>by
   show(cellsFrom (C + 1) scope.names (Zj X.env.cells scope.names [])).lookup x=some c;rw[Zr,Xk,Xa _ _ _ nocell,Option.none_or];exact W4 _ _ _ _ hnn hx1 hc
  rcases hx2 with h | h
  ·obtain⟨c,o,v,hc,hz,hd,hr⟩:=r.cap x d h;exact⟨c,o,v,lk c hc,le _ _ hz,hd,hr.mono le⟩
  ·obtain⟨c,uo,hw,hc,⟨o,ho,hd⟩,u,rfl,hr⟩:=r.cells x _ h;refine⟨c,o,u,lk c hc,?_,hd,hr.mono le⟩;unfold Xw;rw[if_pos hw];exact ho
 ·exact(r.mem p hp).mono le fun o e=>k2 _ _ e
 ·show(C::((cellsFrom (C + 1) scope.names []).map (·.2)++keys B.mem)).Nodup;refine nodup_cons.mpr ⟨fun hm=>?_,nodup_append.mpr ⟨?_,n2.2.1,fun b hb c hc e=>?_⟩⟩
  ·rcases mem_append.mp hm with h | h
   ·exact lt_irrefl _ (abA _ h).1
   ·obtain⟨o,ho⟩:=r.ex _ (inK _ h);exact lt_irrefl _ (ltC _ _ ho)
  ·rw[List.Nodup,pairwise_map];exact okA.apart
  ·subst e;obtain⟨o,ho⟩:=r.ex _ (inK _ hc);exact lt_irrefl _ (lt_trans (ltC _ _ ho) (abA _ hb).1)
 ·refine Zb fun o e=>?_;have hz:=zin _ _ e;rcases footc2 b hb with h | h
  ·unfold Xw at e;rw[if_neg (fun hw=>n2.2.2 b hw b h rfl),r.zfoot b (inK b h)] at e;exact nsE e
  ·rw[h] at hz;exact nsE hz
 ·rcases footc2 b hb with h | h
  ·exact r.bfoot b (inK b h)
  ·cases e:X.base.get? b with
   | none=>exact e
   | some o=>obtain⟨o2,h2⟩:=r.old.there _ _ e;rw[h] at h2;exact nsE h2
 ·rcases footc b hb with rfl | h | h
  ·exact⟨_,pushCells_keeps _ _ _ _ getC⟩
  ·obtain⟨_,uo,o,ho,_⟩:=abA b h;exact⟨o,ho⟩
  ·obtain⟨o,ho⟩:=r.ex b (inK b h);exact⟨o,k2 _ _ ho⟩
 ·unfold Xw at e;split at e
  ·rename_i h;obtain⟨uo,o',ho',hd⟩:=r.ownc a h;rw[ho'] at e;cases e;exact .inr ⟨h,uo,hd⟩
  ·exact .inl e
theorem Sl{M:Model}{A:Around}{E:Value->Shared->Prop}{scope:Scope}{env:Env}{cl:List (Str × Addr)}{Q:Env->Shared->Prop}
  (h:Q {scope,locals:=s.heap.objs.size,globals:=env.globals,cells:=cellsFrom (s.heap.objs.size + 1) scope.names cl,qual:=env.qual,func:=none,code:=env.code,frame:=env.frame,builtins:=env.builtins}
   {s with heap:=pushCells (s.heap.push {cls:=.type "dict",data:=.dict #[]}) scope.names}):wpAny M A (newFunctionEnv scope env.globals cl [] env.qual none .none (some env)) Q E s:=by
 unfold newFunctionEnv;refine wpAny_bind (wpAny_alloc ?_);refine wpAny_bind (wpAny_layCells _ (fun name kind cells=>?_) scope.names cl _ _ ?_)
 ·rfl
 ·have e:(s.heap.push {cls:=.type (if (some env).isSome=true then "dict" else "frame"),data:=.dict #[]}).objs.size=s.heap.objs.size + 1:=size_push ..;refine wpAny_pure ?_;dsimp only;rw[e];exact h
theorem Ps{e:PySem.Expr}(hc:X6 e){target iter:PySem.Expr}{ifs:List PySem.Expr}{gs:List Comprehension}(hcl:clausesOf e=⟨target,iter,ifs,0⟩::gs)(has:∀ g ∈ gs,g.is_async=0)
  {scope:Scope} (hok:Zc scope.names=true) (hk:scope.kind=.function) {its:List V} {o oa:Obj} (hoa:oa.isFreed=false) {S:Nat->Heap->Prop} (hof:o.isFreed=false)
  (r:Rel X B Z s) (it:Iter X target Z s.heap.objs.size its S) (hself:∀ i s' (A:Around) (Q:Value->Shared->Prop),S i s'.heap->Q (.ref s.heap.objs.size) s'->wpAny (model X.prog X.w) A (pyIter (.ref s.heap.objs.size)) Q Zm s') (st0:S 0 (s.heap.push o))
  {c0:Cell} (hc0:∀ Z h a,h.get? a=some oa->CellRel X.prog X.w Z h a c0) {locc celc:List (Str × Option V)} {capc:List (Str × V)} (hL:ScL B.cel B.cap scope.names locc celc capc) {P:Cell->List (Addr × Cell)->List (Addr × Cell)->Prop}
  (h:∀ C D,∃ Inv:Nat->St->Prop,Inv 0 ⟨locc,celc,capc,B.mem++[(D,c0)]⟩ ∧
   (∀ i di B2,its[i]?=some di->Inv i B2->AS (X.comp scope C) target di B2 fun B3=>TS (X.comp scope C) ifs B3 fun ok B4=>if ok then IN (X.comp scope C) e 0 (.ref D) B4 (Inv (i + 1)) else Inv (i + 1) B4) ∧
   (∀ B2,Inv its.length B2->∃ c m1 m2,B2.mem=m1++(D,c)::m2 /\ P c m1 m2))
  {R:Result->Shared->Prop} (D C:Addr) (hD:D=(s.heap.push o).objs.size) (hC:C=((s.heap.push o).push oa).objs.size)
  (fin:∀ c m1 m2 Z' s',Ext X B Z s {B with mem:=m1++(D,c)::m2} Z' s'->P c m1 m2->C ∉ Z0 X {B with mem:=m1++(D,c)::m2}->Z' C=none->(∃ m,s'.heap.Ns C m)->R (.ok .next) s'):
  codeAny (model X.prog X.w) X.A (.compStart e 0 (.ref s.heap.objs.size) (.ref D) (Xg X.env scope C)) R
   {s with heap:=pushCells (((s.heap.push o).push oa).push {cls:=.type "dict",data:=.dict #[]}) scope.names}:=by
 have fresh:s.heap.get? s.heap.objs.size=none:=get?_none_of_le (le_refl _);have hgI:(s.heap.push o).get? s.heap.objs.size=some o:=get?_push_size _ hof;have x1:=(Ext.refl r).push o
 have x2:Ext X B Z s {B with mem:=B.mem++[(D,c0)]} Z {s with heap:=(s.heap.push o).push oa}:=by
  have:=x1.pushM oa (c:=c0) hoa (hc0 _ _ _ (get?_push_size _ hoa));rw[<- hD] at this;exact this
 obtain⟨rc,kc,lec,hz1,hfc⟩:=Pr x2.rel hL hok hk;have hC':({s with heap:=(s.heap.push o).push oa}:Shared).heap.objs.size=C:=hC.symm;rw[hC'] at rc hfc;obtain⟨Inv,inv0,turn,last⟩:=h C D;have hI3:((s.heap.push o).push oa).get? s.heap.objs.size=some o:=get?_push_of_some _ hgI
 have nb:∀ a,s.heap.get? a=none->X.base.get? a=none:=fun a ha=>by
  refine Zb fun o' e'=>?_;obtain⟨o2,h2⟩:=r.old.there _ _ e';rw[ha] at h2;exact nsE h2
 have ltI:s.heap.objs.size < D:=by rw[hD,size_push];exact lt_succ_self _
 have ltD:D < C:=by rw[hC,hD];simp only[size_push];exact lt_succ_self _
 have goneC:∀ b,s.heap.objs.size ≤ b->s.heap.get? b=none:=fun b hb=>get?_none_of_le hb
 have fI:s.heap.objs.size ∉ Z0 (X.comp scope C) ⟨locc,celc,capc,B.mem++[(D,c0)]⟩:=fun hm=>by
  rcases hfc _ hm with h' | h'
  ·rw[show keys (B.mem++[(D,c0)])=keys B.mem++[D] by exact Y2 ..] at h';rcases mem_append.mp h' with h' | h'
   ·exact absurd (r.lt _ (by unfold Z0;exact mem_cons_of_mem _ (mem_append_right _ h'))) (lt_irrefl _)
   ·rw[mem_singleton] at h';exact absurd ltI (by rw[h'];exact lt_irrefl _)
  ·rw[show({s with heap:=(s.heap.push o).push oa}:Shared).heap.get? s.heap.objs.size=some o from hI3] at h';exact snE h'
 have zI:Xw X ((s.heap.push o).push oa) Z s.heap.objs.size=none:=by
  unfold Xw;split
  ·rename_i hm;exact absurd (r.lt _ (by unfold Z0;exact mem_cons_of_mem _ (mem_append_left _ hm))) (lt_irrefl _)
  ·refine Zb fun o2 e'=>?_;rw[r.zin _ _ e'] at fresh;exact snE fresh
 have hgs:∀ g ∈ clausesOf e,g.is_async=0:=fun g hg=>by
  rw[hcl] at hg;rcases mem_cons.mp hg with rfl | hg
  ·rfl
  ·exact has g hg
 have hg0:(clausesOf e)[0]?=some ⟨target,iter,ifs,0⟩:=by rw[hcl];rfl
 have it':Iter (X.comp scope C) target Z s.heap.objs.size its S:=⟨it.frame,it.item,it.done⟩
 have st1:S 0 (pushCells (((s.heap.push o).push oa).push {cls:=.type "dict",data:=.dict #[]}) scope.names):=it.frame _ _ _ st0 fun a o' _ e'=>kc _ _ (get?_push_of_some _ e');refine Sd (X:=X.comp scope C) hc hg0 (Rb (X:=X.comp scope C) hc hgs hg0 it' lec rc ⟨o,kc _ _ hI3⟩ fI zI (nb _ fresh) st1 Inv inv0 turn fun B' Z' s' h' tk x hkI inv=>?_) fun Q hq=>hself 0 _ _ _ st1 hq;obtain⟨c,m1,m2,hm,hP⟩:=last _ inv;have kall:∀ b o',s.heap.get? b=some o'->(pushCells (((s.heap.push o).push oa).push {cls:=.type "dict",data:=.dict #[]}) scope.names).get? b=some o':=fun b o' e'=>kc _ _ (get?_push_of_some _ (get?_push_of_some _ e'))
 have nn:∀ a,(pushCells (((s.heap.push o).push oa).push {cls:=.type "dict",data:=.dict #[]}) scope.names).get? a=none->s.heap.get? a=none:=fun a ha=>by
  refine Zb fun o2 e'=>?_;rw[kall _ _ e'] at ha;cases ha
 have lv:Ext X B Z s {B with mem:=B'.mem++[]} (W6 Z' X.own) s' /\ ∀ a o,a ∈ X.own->Z' a=some o->∃ v,o.data=.cell v:=by
  refine Pk (A':=X.A) (env':=Xg X.env scope C) (own':=(X.comp scope C).own) (B₁:=⟨locc,celc,capc,B.mem++[(D,c0)]⟩) (sub:=B.mem) (rest:=[]) r (by exact(append_nil _).symm) kall lec (fun a o' e'=>hz1 a o' e') (fun b hb=>?_) x.rel x.le (fun a o' e' hf' ht hn=>x.keep a o' e' hf' ht (fun h'=>hn (h' ▸ fresh))) x.new x.znew;rcases hfc b hb with h' | h'
  ·rw[show keys (B.mem++[(D,c0)])=keys B.mem++[D] by exact Y2 ..] at h';rcases mem_append.mp h' with h' | h'
   ·exact .inl h'
   ·rw[mem_singleton] at h';rw[h'];exact .inr (goneC _ (le_of_lt ltI))
  ·refine .inr ?_;refine Zb fun o2 e'=>?_;rw[show({s with heap:=(s.heap.push o).push oa}:Shared).heap.get? b=some o2 from get?_push_of_some _ (get?_push_of_some _ e')] at h';exact snE h'
 obtain⟨y1,hS⟩:=lv;rw[append_nil] at y1;have hmk:keys B'.mem=keys m1++D::keys m2:=by rw[hm];exact Y2 ..
 have nd':=x.rel.nd
 have fIx:s.heap.objs.size ∉ Z0 X {B with mem:=B'.mem}:=fun hf'=>by
  unfold Z0 at hf';rcases mem_cons.mp hf' with h' | h'
  ·exact absurd (r.lt _ mem_cons_self) (by rw[<- h'];exact lt_irrefl _)
  ·rcases mem_append.mp h' with h' | h'
   ·exact absurd (r.lt _ (by unfold Z0;exact mem_cons_of_mem _ (mem_append_left _ h'))) (lt_irrefl _)
   ·exact x.out (mem_cons_of_mem _ (mem_append_right _ h'))
 have zIx:W6 Z' X.own s.heap.objs.size=none:=by unfold W6;split;rfl;exact x.zI
 have y2:=Ext.butI (tk:=tk) r y1 fresh fIx hkI (fun _ _ h'=>h') (fun a o' e'=>hkI _ _ (fun h'=>by rw[h',zIx] at e';exact nsE e') (y1.rel.zin _ _ e')) fun _ _ h'=>.inl h';have hCx:C ∈ Z0 (X.comp scope C) B':=mem_cons_self
 have nCm:C ∉ keys B'.mem:=fun h'=>by
  unfold Z0 at nd';exact(nodup_cons.mp nd').1 (mem_append_right _ h')
 have sIC:s.heap.objs.size < C:=lt_trans ltI ltD;rw[hm] at y2;refine fin c m1 m2 _ _ y2 hP (fun hf'=>?_) ?_ ?_
 ·unfold Z0 at hf';rcases mem_cons.mp hf' with h' | h'
  ·exact absurd (r.lt _ mem_cons_self) (by rw[<- h'];exact not_lt.mpr (le_of_lt sIC))
  ·rcases mem_append.mp h' with h' | h'
   ·exact absurd (r.lt _ (by unfold Z0;exact mem_cons_of_mem _ (mem_append_left _ h'))) (not_lt.mpr (le_of_lt sIC))
   ·exact nCm (by rw[hm];exact h')
 ·unfold W6;split
  ·rfl
  ·exact x.rel.zfoot C hCx
 ·obtain⟨m,hn,_⟩:=x.rel.ns;exact⟨m,hn.at' fun o' e'=>hkI C o' (ne_of_gt sIC) e'⟩
end
inductive Wk:List (Str × Option V)->List (Str × Option V)->Prop
 | nil:Wk [] []
 | same {p l l'}:Wk l l'->Wk (p::l) (p::l')
 | forget {x u l l'}:Wk l l'->Wk ((x,none)::l) ((x,u)::l')
theorem Wk.refl:∀ l,Wk l l
 | []=>.nil
 | _::l=>.same (Wk.refl l)
theorem Wk.keys{l l'}(h:Wk l l'):l'.map (·.1)=l.map (·.1):=by
 induction h with
 | nil=>rfl
 | same _ ih=>simp[ih]
 | forget _ ih=>simp[ih]
theorem Wk.mem{l l'}(h:Wk l l'):∀ x ov,(x,ov) ∈ l->ov=none /\ (∃ u,(x,u) ∈ l') \/ (x,ov) ∈ l':=by
 induction h with
 | nil=>intro x ov h;exact mnE h
 | same _ ih=>
  intro x ov hm;rcases mem_cons.mp hm with h | h
  ·exact .inr (h ▸ .head _)
  ·rcases ih x ov h with⟨h,u,hu⟩ | h
   ·exact .inl ⟨h,u,.tail _ hu⟩
   ·exact .inr (.tail _ h)
 | forget _ ih=>
  intro x ov hm;rcases mem_cons.mp hm with h | h
  ·cases h;exact .inl ⟨rfl,_,.head _⟩
  ·rcases ih x ov h with⟨h,u,hu⟩ | h
   ·exact .inl ⟨h,u,.tail _ hu⟩
   ·exact .inr (.tail _ h)
theorem Wk.trans{l l' l''}(h:Wk l l')(h':Wk l' l''):Wk l l'':=by
 induction h generalizing l'' with
 | nil=>exact h'
 | same _ ih=>
  cases h' with
  | same h2=>exact .same (ih h2)
  | forget h2=>exact .forget (ih h2)
 | forget _ ih=>
  cases h' with
  | same h2=>exact .forget (ih h2)
  | forget h2=>exact .forget (ih h2)
noncomputable def Back(B₀:St)(mem:List (Addr × Cell))(B':St):Prop:=Wk B₀.loc B'.loc /\ Wk B₀.cel B'.cel /\ B'.cap=B₀.cap /\ B'.mem=mem
theorem Back.trans{B₀ B₁ B':St}{m m':List (Addr × Cell)}(h:Back B₀ m B₁)(h':Back B₁ m' B'):Back B₀ m' B':=⟨h.1.trans h'.1,h.2.1.trans h'.2.1,h'.2.2.1.trans h.2.2.1,h'.2.2.2⟩
theorem Back.refl(B₀:St):Back B₀ B₀.mem B₀:=⟨Wk.refl _,Wk.refl _,rfl,rfl⟩
section
variable{X:Cx}{B B' B'':St}{Z Z' Z'':ZM}{s s' s'':Shared}{P:V->St->Prop}
theorem Rel.forget{B₀:St}(r:Rel X B Z s)(h:Back B₀ B₀.mem B):Rel X B₀ Z s:=by
 obtain⟨hl,hc,hp,hm⟩:=h
 haveI ft:Z0 X B₀=Z0 X B:=by unfold Z0;rw[hm]
 refine⟨⟨by rw[<- hl.keys];exact r.fr.lnd,fun p hp'=>?_,fun p hp'=>?_,by rw[<- hc.keys];exact r.fr.cnd,by rw[<- hc.keys];exact r.fr.cinj,by rw[<- hp];exact r.fr.pk,by rw[<- hl.keys,<- hc.keys,<- hp];exact r.fr.dbg,r.fr.kind⟩,r.zin,r.st,r.ztab,r.old,r.os,r.gens,?_,fun x ov hx=>?_,by rw[<- hp];exact r.cap,r.ownc,by rw[<- hm];exact r.mem,by rw[ft];exact r.nd,by rw[ft];exact r.zfoot,by rw[ft];exact r.bfoot,by rw[ft];exact r.ex,r.g3,by rw[<- hm];exact r.low⟩
 ·obtain⟨x,ov⟩:=p;rcases hl.mem x ov hp' with⟨_,u,hu⟩ | h
  ·exact r.fr.lk (x,u) hu
  ·exact r.fr.lk _ h
 ·obtain⟨x,ov⟩:=p;rcases hc.mem x ov hp' with⟨_,u,hu⟩ | h
  ·exact r.fr.ck (x,u) hu
  ·exact r.fr.ck _ h
 ·obtain⟨m,hn,hv⟩:=r.ns;refine⟨m,hn,fun x ov hx=>?_⟩;rcases hl.mem x ov hx with⟨rfl,_⟩ | h
  ·trivial
  ·exact hv x ov h
 ·rcases hc.mem x ov hx with⟨rfl,u,hu⟩ | h
  ·obtain⟨c,uo,hw,hcc,hv,_⟩:=r.cells x u hu;exact⟨c,uo,hw,hcc,hv,trivial⟩
  ·exact r.cells x ov h
theorem Ext.of_forget{B₀:St}(h:Back B₀ B₀.mem B)(x:Ext X B₀ Z s B' Z' s'):Ext X B Z s B' Z' s':=by
 haveI ft:Z0 X B₀=Z0 X B:=by unfold Z0;rw[h.2.2.2]
 haveI km:keys B₀.mem=keys B.mem:=by rw[h.2.2.2]
 exact⟨x.rel,x.le,by rw[<- ft];exact x.keep,by rw[<- km];exact x.new,by rw[<- km];exact x.znew⟩
theorem AS.forget{t d}{Q:St->Prop}{B₀:St}(hb:Back B₀ B₀.mem B)(h:AS X t d B₀ Q):AS X t d B Q:=fun Z s v r hv=>
 wpAny_mono (h Z s v (r.forget hb) hv) (fun _ _ q=>by obtain⟨Z',B',b,x,q⟩:=q;exact⟨Z',B',b,x.of_forget hb,q⟩) fun _ _ h=>h
theorem J.post{α β:Type}{R:ZM->β->α->Prop}{t:Sem α}{Q Q':β->St->Prop}(h:J X R t B Q)(k:∀ b B',Q b B'->Q' b B'):J X R t B Q':=h.mono k
theorem AS.post{t d}{Q Q':St->Prop}(h:AS X t d B Q)(k:∀ B',Q B'->Q' B'):AS X t d B Q':=fun Z s v r hv=>
 wpAny_mono (h Z s v r hv) (fun _ _ q=>by obtain⟨Z',B',b,x,e,q⟩:=q;exact⟨Z',B',b,x,e,k _ q⟩) fun _ _ h=>h
theorem IN.post{e k acc}{Q Q':St->Prop}(h:IN X e k acc B Q)(kq:∀ B',Q B'->Q' B'):IN X e k acc B Q':=fun Z s K R r hK=>h Z s K R r fun Z' B' s' x hq=>hK Z' B' s' x (kq _ hq)
noncomputable def H3(X:Cx)(e:PySem.Expr)(k:Nat)(target:PySem.Expr)(ifs:List PySem.Expr)(D:Addr)(B₀:St)(m:List (Addr × Cell))(c:Cell)(m':List (Addr × Cell))(c':Cell)(d:V):Prop:=
 AS X target d {B₀ with mem:=m++[(D,c)]} fun B2=>TS X ifs B2 fun ok B3=>if ok then IN X e k (.ref D) B3 (Back B₀ (m'++[(D,c')])) else Back B₀ (m'++[(D,c')]) B3
theorem UpM.last{D:Addr}{c c':Cell}:∀ (m:List (Addr × Cell)),UpM D c' (m++[(D,c)]) (m++[(D,c')])
 | []=>.head
 | _::m=>.tail (UpM.last m)
theorem IN.one{elt gens scope pos k}{D:Addr}{m l F}{B₀:St}(hg:gens[k + 1]?=none)(hl:l.length ≤ sizeLine)
  (h:EV X elt B fun d B1=>d=F /\ Back B₀ (m++[(D,Cell.list l)]) B1):IN X (.ListComp elt gens scope pos) k (.ref D) B (Back B₀ (m++[(D,.list (l++[F]))])):=
 IN.append hg (J.post h fun d B1 hh0=>by
  obtain⟨hd,hb⟩:=hh0;subst hd;obtain⟨h1,h2,h3,h4⟩:=hb
  exact⟨l,by rw[h4];exact mem_append_right _ mem_cons_self,hl,m++[(D,.list (l++[d]))],by rw[h4];exact UpM.last m,h1,h2,h3,rfl⟩)
theorem IN.clause{e:PySem.Expr}(hc:X6 e)(has:∀ g ∈ clausesOf e,g.is_async=0){k:Nat}{target iter:PySem.Expr}{ifs:List PySem.Expr}{D:Addr}{B₀ B₁:St}(hg:(clausesOf e)[k + 1]?=some ⟨target,iter,ifs,0⟩)
  (ms:Nat->List (Addr × Cell)) (cs:Nat->Cell) (its:List V)
  (h:EV X iter B fun d B1=>ITERC X target B1 d its /\ Back B₁ (ms 0++[(D,cs 0)]) B1)
  (turn:∀ i d,its[i]?=some d->H3 X e (k + 1) target ifs D B₁ (ms i) (cs i) (ms (i + 1)) (cs (i + 1)) d)
  (fin:∀ B',Back B₁ (ms its.length++[(D,cs its.length)]) B'->Back B₀ (ms its.length++[(D,cs its.length)]) B')
  (hs:∀ env x,foldedSetIterable iter env x=pure x:=by intro _ _;rfl):IN X e k (.ref D) B (Back B₀ (ms its.length++[(D,cs its.length)])):=by
 refine IN.more hc has hg (J.post h fun d B1 ⟨hit,hb⟩=>⟨its,hit,fun i=>Back B₁ (ms i++[(D,cs i)]),hb,fun i di B2 hdi hb2=>?_,fin⟩) hs
 haveI hb':Back {B₁ with mem:=ms i++[(D,cs i)]} ({B₁ with mem:=ms i++[(D,cs i)]}:St).mem B2:=hb2
 exact AS.forget hb' (turn i di hdi)
noncomputable def X8:Cell->V
 | .list l=>.list l
 | .sdict ks l=>.sdict ks l
 | .idict ks l=>.idict ks l
 | .ns _=>.none
 | .raw _=>.none
noncomputable def Cell.isV:Cell->Bool
 | .ns _=>false
 | .raw _=>false
 | _=>true
theorem Ub{Z:ZM}{D:Addr}{c:Cell}{prog:Program}{w:World}{h:Heap}{ob:Obj}(hz:Z D=some ob)(ho:h.get? D=some ob)(lo:3 < D)(hc:CellRel prog w Z h D c)(hn:c.isV=true):VRel prog w Z (X8 c) (.ref D):=by
 cases c with
 | list l=>obtain⟨its,⟨n,e⟩,hr⟩:=hc;exact⟨D,its,n,rfl,hz.trans (ho.symm.trans e),hr⟩
 | sdict ks l=>obtain⟨vs,⟨o,es,ep,e,q⟩,hl,hr⟩:=hc;exact⟨D,vs,rfl,lo,⟨_,es,ep,hz.trans (ho.symm.trans e),q⟩,hl,hr⟩
 | idict ks l=>obtain⟨vs,⟨o,es,ep,e,q⟩,hl,hr⟩:=hc;exact⟨D,vs,rfl,lo,⟨_,es,ep,hz.trans (ho.symm.trans e),q⟩,hl,hr⟩
 | ns l=>exact Bool.noConfusion hn
 | raw p=>exact Bool.noConfusion hn
noncomputable def Y3(names:List (Str × NameKind))(ck pk:List Str):Bool:=names.all fun p=>!(p.2 == .free) || ck.contains p.1 || pk.contains p.1
inductive LCG(X:Cx)(target:PySem.Expr)(scope:Scope)(e:PySem.Expr)(ifs:List PySem.Expr)(c0:Cell)(R:List (Addr × Cell)->Cell->St->Prop)(d:V)(B1:St):Prop
 | mk (its:List V) (locc celc:List (Str × Option V)) (capc:List (Str × V)) (hit:ITERC X target B1 d its) (hL:ScL B1.cel B1.cap scope.names locc celc capc)
  (ms:Nat->List (Addr × Cell)) (cs:Nat->Cell) (h0:ms 0=B1.mem) (h1:cs 0=c0)
  (turn:∀ C D i di,its[i]?=some di->H3 (X.comp scope C) e 0 target ifs D ⟨locc,celc,capc,[]⟩ (ms i) (cs i) (ms (i + 1)) (cs (i + 1)) di)
  (fin:R (ms its.length) (cs its.length) B1)
noncomputable def LCE(P:V->St->Prop)(m:List (Addr × Cell))(c:Cell)(B1:St):Prop:=c.isV=true /\ P (X8 c) {B1 with mem:=m}
noncomputable def LCX(P:V->St->Prop)(m:List (Addr × Cell))(c:Cell)(B1:St):Prop:=∀ D,P (.ref D) {B1 with mem:=m++[(D,c)]}
inductive LCB(X:Cx)(target:PySem.Expr)(scope:Scope)(e:PySem.Expr)(ifs:List PySem.Expr)(c0:Cell)(Q:V->St->Prop)(d:V)(B1:St):Prop
 | mk (its:List V) (locc celc:List (Str × Option V)) (capc:List (Str × V)) (hit:ITERC X target B1 d its) (hL:ScL B1.cel B1.cap scope.names locc celc capc)
  (P:Cell->List (Addr × Cell)->List (Addr × Cell)->Prop)
  (body:∀ C D,∃ Inv:Nat->St->Prop,Inv 0 ⟨locc,celc,capc,B1.mem++[(D,c0)]⟩ ∧
   (∀ i di B2,its[i]?=some di->Inv i B2->AS (X.comp scope C) target di B2 fun B3=>TS (X.comp scope C) ifs B3 fun ok B4=>if ok then IN (X.comp scope C) e 0 (.ref D) B4 (Inv (i + 1)) else Inv (i + 1) B4) ∧
   (∀ B2,Inv its.length B2->∃ c m1 m2,B2.mem=m1++(D,c)::m2 /\ P c m1 m2))
  (fin:∀ D c m1 m2,P c m1 m2->Q (.ref D) {B1 with mem:=m1++(D,c)::m2})
theorem Tj{e:PySem.Expr}(hc:X6 e){target iter:PySem.Expr}{ifs:List PySem.Expr}{gs:List Comprehension}(hcl:clausesOf e=⟨target,iter,ifs,0⟩::gs)(has:∀ g ∈ gs,g.is_async=0)
  {scope:Scope} {pos:Pos} (hok:Zc scope.names=true) (hk:scope.kind=.function) {oa:Obj} (hoa:oa.isFreed=false) {c0:Cell} (hc0:∀ Z h a,h.get? a=some oa->CellRel X.prog X.w Z h a c0)
  {newAcc:Sem Value} (hacc:∀ (s:Shared) (Q:Value->Shared->Prop),Q (.ref s.heap.objs.size) {s with heap:=s.heap.push oa}->wpAny (model X.prog X.w) X.A newAcc Q Zm s)
  {Q:V->St->Prop} (r:Rel X B Z s)
  (h:EV X iter B (LCB X target scope e ifs c0 Q))
  (hs:∀ x,foldedSetIterable iter X.env x=pure x) (hfk:Y3 scope.names (B.cel.map (·.1)) (B.cap.map (·.1))=true)
  {use:Option (Value->Sem Unit)} {R:Value->Shared->Prop}
  (fin:∀ d v C B1 Z1 s1 B' Z' s',Ext X B Z s B1 Z1 s1->Ext X B1 Z1 s1 B' Z' s'->VRel X.prog X.w Z' d v->Q d B'->C ∉ Z0 X B'->Z' C=none->s1.heap.get? C=none->(∃ m,s'.heap.Ns C m)->compPost (model X.prog X.w) X.A Zm use R v C (.ok .next) s'):
  wpAny (model X.prog X.w) X.A (comprehension e scope X.env pos newAcc false (eval iter X.env) use) R Zm s:=by
 haveI okc:=Vt hok
 haveI hfree:∀ x ∈ scope.names,x.2=.free->(X.env.cells.lookup x.1).isSome=true:=fun x hx hf=>by
  haveI:=all_eq_true.mp hfk x hx
  simp only[hf,beq_self_eq_true,Bool.not_true,Bool.false_or,or_eq_true,List.contains_iff_mem,mem_map] at this;rcases this with⟨p,hp,e⟩ | ⟨p,hp,e⟩
  ·obtain⟨c,_,_,hcc,_⟩:=r.cells p.1 p.2 hp;rw[<- e,hcc];rfl
  ·obtain⟨c,_,_,hcc,_⟩:=r.cap p.1 p.2 hp;rw[<- e,hcc];rfl
 ·refine wpAny_comprehension_free hcl hs (Sv hfree) hk (fun x hx hl=>by rw[<- hl];exact Yk okc.1 hx) ?_;refine J.use h r fun Z1 s1 B1 d v x1 r1 h1=>?_;obtain⟨its,locc,celc,capc,hit,hL,P,body,hQ⟩:=h1;refine hit Z1 s1 v _ x1.rel r1 fun o S hof it hself st0=>?_;refine hacc _ _ ?_;refine Sl ?_;refine Ps (D:=(s1.heap.push o).objs.size) (C:=((s1.heap.push o).push oa).objs.size) hc hcl has hok hk hoa hof x1.rel it hself st0 hc0 hL (P:=P) body rfl rfl ?_;intro c m1 m2 Z' s' x2 hP hCf hCz hCn;exact fin _ _ _ _ _ _ _ _ _ x1 x2 (Yh (a:=(s1.heap.push o).objs.size)) (hQ _ _ _ _ hP) hCf hCz (get?_none_of_le (by rw[size_push,size_push];exact le_add_right _ 2)) hCn
theorem Ti{e:PySem.Expr}(hc:X6 e){target iter:PySem.Expr}{ifs:List PySem.Expr}{gs:List Comprehension}(hcl:clausesOf e=⟨target,iter,ifs,0⟩::gs)(has:∀ g ∈ gs,g.is_async=0)
  {scope:Scope} {pos:Pos} (hok:Zc scope.names=true) (hk:scope.kind=.function) {oa:Obj} (hoa:oa.isFreed=false) {c0:Cell} (hc0:∀ Z h a,h.get? a=some oa->CellRel X.prog X.w Z h a c0)
  {newAcc:Sem Value} (hacc:∀ (s:Shared) (Q:Value->Shared->Prop),Q (.ref s.heap.objs.size) {s with heap:=s.heap.push oa}->wpAny (model X.prog X.w) X.A newAcc Q Zm s)
  {Q:V->St->Prop} (r:Rel X B Z s)
  (h:EV X iter B (LCG X target scope e ifs c0 (LCX Q)))
  (hs:∀ x,foldedSetIterable iter X.env x=pure x) (hfk:Y3 scope.names (B.cel.map (·.1)) (B.cap.map (·.1))=true)
  {use:Option (Value->Sem Unit)} {R:Value->Shared->Prop}
  (fin:∀ d v C B1 Z1 s1 B' Z' s',Ext X B Z s B1 Z1 s1->Ext X B1 Z1 s1 B' Z' s'->VRel X.prog X.w Z' d v->Q d B'->C ∉ Z0 X B'->Z' C=none->s1.heap.get? C=none->(∃ m,s'.heap.Ns C m)->compPost (model X.prog X.w) X.A Zm use R v C (.ok .next) s'):
  wpAny (model X.prog X.w) X.A (comprehension e scope X.env pos newAcc false (eval iter X.env) use) R Zm s:=by
 refine Tj hc hcl has hok hk hoa hc0 hacc r (J.mono h fun d B1 h=>?_) hs hfk fin;obtain⟨its,locc,celc,capc,hit,hL,ms,cs,hm0,hc0',turn,hQ⟩:=h;refine .mk its locc celc capc hit hL (fun c m1 m2=>c=cs its.length /\ m1=ms its.length /\ m2=[]) (fun C D=>⟨fun i=>Back ⟨locc,celc,capc,[]⟩ (ms i++[(D,cs i)]),⟨Wk.refl _,Wk.refl _,rfl,by rw[hm0,hc0']⟩,fun i di B2 hdi hb=>?_,fun B2 hb=>⟨cs its.length,ms its.length,[],hb.2.2.2,rfl,rfl,rfl⟩⟩) ?_
 ·haveI hb':Back {(⟨locc,celc,capc,[]⟩:St) with mem:=ms i++[(D,cs i)]} ({(⟨locc,celc,capc,[]⟩:St) with mem:=ms i++[(D,cs i)]}:St).mem B2:=hb
  exact AS.forget hb' (turn C D i di hdi)
 ·rintro D c m1 m2 ⟨rfl,rfl,rfl⟩;exact hQ D
theorem Tc{e:PySem.Expr}(hc:X6 e){target iter:PySem.Expr}{ifs:List PySem.Expr}{gs:List Comprehension}(hcl:clausesOf e=⟨target,iter,ifs,0⟩::gs)(has:∀ g ∈ gs,g.is_async=0)
  {scope:Scope} {pos:Pos} (hok:Zc scope.names=true) (hk:scope.kind=.function) {oa:Obj} (hoa:oa.isFreed=false) {c0:Cell} (hc0:∀ Z h a,h.get? a=some oa->CellRel X.prog X.w Z h a c0)
  {newAcc:Sem Value} (hacc:∀ (s:Shared) (Q:Value->Shared->Prop),Q (.ref s.heap.objs.size) {s with heap:=s.heap.push oa}->wpAny (model X.prog X.w) X.A newAcc Q Zm s)
  {Q:V->St->Prop} (r:Rel X B Z s)
  (h:EV X iter B (LCG X target scope e ifs c0 (LCE Q)))
  (hs:∀ x,foldedSetIterable iter X.env x=pure x) (hfk:Y3 scope.names (B.cel.map (·.1)) (B.cap.map (·.1))=true)
  {use:Option (Value->Sem Unit)} {R:Value->Shared->Prop}
  (fin:∀ d v C B1 Z1 s1 B' Z' s',Ext X B Z s B1 Z1 s1->Ext X B1 Z1 s1 B' Z' s'->VRel X.prog X.w Z' d v->Q d B'->C ∉ Z0 X B'->Z' C=none->s1.heap.get? C=none->(∃ m,s'.heap.Ns C m)->compPost (model X.prog X.w) X.A Zm use R v C (.ok .next) s'):
  wpAny (model X.prog X.w) X.A (comprehension e scope X.env pos newAcc false (eval iter X.env) use) R Zm s:=by
 refine Ti (Q:=fun d B'=>∃ D m c,d=.ref D /\ B'.mem=m++[(D,c)] /\ c.isV=true /\ Q (X8 c) {B' with mem:=m}) hc hcl has hok hk hoa hc0 hacc r (J.mono h fun d B1 h=>?_) hs hfk fun d v C B1 Z1 s1 B' Z' s' x1 x2 hv hq hCf hCz hCn hn=>?_
 ·induction h with
  | mk its locc celc capc hit hL ms cs h0 h1 turn fin=>exact .mk its locc celc capc hit hL ms cs h0 h1 turn fun D=>⟨D,_,_,rfl,rfl,fin.1,fin.2⟩
 ·obtain⟨D,m,c,rfl,hm,hcv,hQ⟩:=hq;cases (show v=.ref D from hv)
  haveI hin:(D,c) ∈ B'.mem:=by rw[hm];exact mem_append_right _ mem_cons_self
  obtain⟨o,ho⟩:=x2.rel.ex D (x2.rel.nonempty hin);obtain⟨y,hle⟩:=x2.freeze (D:=D) (c:=c) (m1:=m) (m2:=[]) hm ho;rw[append_nil] at y
  haveI hcell:CellRel X.prog X.w (Zput Z' D o) s'.heap D c:=(x2.rel.mem _ hin).mono hle fun o h=>h
  haveI hlow:3 < D:=x2.rel.low D (mem_map.mpr ⟨_,hin,rfl⟩)
  haveI hDf:D ∈ Z0 X B':=x2.rel.nonempty hin
  refine fin _ _ C B1 Z1 s1 _ _ s' x1 y (Ub Zput.self ho hlow hcell hcv) hQ (fun hf=>hCf ?_) ?_ hCn hn
  ·unfold Z0 at hf ⊢;rcases mem_cons.mp hf with h | h
   ·exact h ▸ mem_cons_self
   ·rcases mem_append.mp h with h | h
    ·exact mem_cons_of_mem _ (mem_append_left _ h)
    ·refine mem_cons_of_mem _ (mem_append_right _ ?_);rw[hm,show keys (m++[(D,c)])=keys m++[D] from map_append];exact mem_append_left _ h
  ·unfold Zput;rw[if_neg (fun e:C=D=>hCf (by rw[e];exact hDf))];exact hCz
theorem Wo{Q:V->St->Prop}{d:V}{v:Value}{C:Addr}{B1:St}{Z1:ZM}{s1:Shared}(r1:Rel X B1 Z1 s1)(x2:Ext X B1 Z1 s1 B' Z' s')(hCf:C ∉ Z0 X B')(hCz:Z' C=none)(hCn:s1.heap.get? C=none){h':Heap}(hs:Heap.SameBut C s'.heap h'):
  Ext X B1 Z1 s1 B' Z' {s' with heap:=h'}:=
 Ext.butI (tk:=s'.toks) r1 x2 hCn hCf (fun a o hne e=>(hs.2 a hne).trans e) (fun _ _ h=>h) (fun a o e=>(hs.2 a (fun h=>by rw[h,hCz] at e;exact nsE e)).trans (x2.rel.zin _ _ e)) fun _ _ h=>.inl h
theorem EV.lcg{elt target iter:PySem.Expr}{ifs:List PySem.Expr}{gs:List Comprehension}{scope:Scope}{pos:Pos}
  (h:EV X iter B (LCG X target scope (.ListComp elt (⟨target,iter,ifs,0⟩::gs) scope pos) ifs (.list []) (LCE P)))
  (has:∀ g ∈ gs,g.is_async=0) (hok:Zc scope.names=true) (hfk:Y3 scope.names (B.cel.map (·.1)) (B.cap.map (·.1))=true) (hk:scope.kind=.function) (hs:∀ x,foldedSetIterable iter X.env x=pure x):
  EV X (.ListComp elt (⟨target,iter,ifs,0⟩::gs) scope pos) B P:=fun Z s r=>by
 rw[eval_ListComp];refine Tc (oa:={cls:=.type "list",data:=.seq #[]}) (c0:=.list []) (use:=Option.none) (.inl ⟨_,_,_,_,rfl⟩) rfl has hok hk rfl (fun Z h a e=>⟨#[],⟨0,e⟩,rfl⟩) (fun s Q h=>wpAny_newList (items:=[]) h (zero_le _)) r h hs hfk ?_;intro d v C B1 Z1 s1 B' Z' s' x1 x2 hv hq hCf hCz hCn ⟨m,hn⟩;exact⟨m,hn,fun h' hs'=>here (x1.trans (Wo (Q:=P) (d:=d) (v:=v) x1.rel x2 hCf hCz hCn hs')) hv hq⟩
theorem EV.dcg{kx vx target iter:PySem.Expr}{ifs:List PySem.Expr}{gs:List Comprehension}{scope:Scope}{pos:Pos}{c0:Cell}(hc0:c0=.sdict [] [] \/ c0=.idict [] [])
  (h:EV X iter B (LCG X target scope (.DictComp kx vx (⟨target,iter,ifs,0⟩::gs) scope pos) ifs c0 (LCE P)))
  (has:∀ g ∈ gs,g.is_async=0) (hok:Zc scope.names=true) (hfk:Y3 scope.names (B.cel.map (·.1)) (B.cap.map (·.1))=true) (hk:scope.kind=.function) (hs:∀ x,foldedSetIterable iter X.env x=pure x):
  EV X (.DictComp kx vx (⟨target,iter,ifs,0⟩::gs) scope pos) B P:=fun Z s r=>by
 refine Tc (oa:={cls:=.type "dict",data:=.dict #[]}) (c0:=c0) (use:=Option.none) (.inr ⟨_,_,_,_,_,rfl⟩) rfl has hok hk rfl (fun Z h a e=>?_) (fun s Q h=>wpAny_newObj_type h (by exact zero_le _)) r h hs hfk ?_
 ·haveI hd:∀ {K:Type} [DecidableEq K] (knd:KeyKind X.prog X.w K),h.DictOf knd a []:=fun knd=>⟨_,#[],0,e,⟨rfl,rfl,rfl⟩,rfl,fun _ he=>by simp at he,.nil,nodup_nil⟩
  rcases hc0 with rfl | rfl
  ·exact⟨[],hd _,rfl,rfl⟩
  ·exact⟨[],hd _,rfl,rfl⟩
 ·intro d v C B1 Z1 s1 B' Z' s' x1 x2 hv hq hCf hCz hCn ⟨m,hn⟩;exact⟨m,hn,fun h' hs'=>here (x1.trans (Wo (Q:=P) (d:=d) (v:=v) x1.rel x2 hCf hCz hCn hs')) hv hq⟩
end
section
variable{X:Cx}{B B':St}{Z Z':ZM}{s s':Shared}{P:V->St->Prop}
theorem vs1{ds:V}{vs:List Value}(h:VsRel X.prog X.w Z [ds] vs):∃ v,vs=[v] /\ VRel X.prog X.w Z ds v:=by
 obtain⟨v,r,rfl,hv,hr⟩:=h;cases hr;exact⟨v,rfl,hv⟩
theorem vs2{d1 d2:V}{vs:List Value}(h:VsRel X.prog X.w Z [d1,d2] vs):∃ v u,vs=[v,u] /\ VRel X.prog X.w Z d1 v /\ VRel X.prog X.w Z d2 u:=by
 obtain⟨v,r,rfl,hv,u,r',rfl,hu,hr⟩:=h;cases hr;exact⟨v,u,rfl,hv,hu⟩
theorem Wt{prog w Z i j t}(h:i=j):VRel prog w Z (.int i) (.int j t):=h ▸ Zu
theorem Ji{prog w Z a b r t u x}(h:Z r=some {cls:=.type "range",data:=.fields #[.int a t,.int b u,.int 1 x]}):VRel prog w Z (.rng a b) (.ref r):=⟨_,_,_,_,rfl,h⟩
theorem Z7{d:V}{v:Value}(x:Ext X B Z s B' Z' s')(hr:VRel X.prog X.w Z' d v)(h:P d B'):Post X (RV X) B Z s P v s':=⟨_,_,_,x,hr,h⟩
theorem CALL.lenL{l:List V}(hs:l.length ≤ sizeLine)(h:P (.int l.length) B):CALL X (.builtin "len") [.list l] B P:=fun Z s vs r hvs=>by
 obtain⟨v,rfl,a,its,n,rfl,z,hr⟩:=vs1 hvs
 haveI hl:its.size=l.length:=by rw[<- hr.length];simp
 exact call_len_list (r.plist z).isList (by unfold sizeLine at hs;exact(Int.lt_of_le_of_lt (Int.le_trans (ofNat_le.mpr (le_of_eq hl)) (ofNat_le.mpr hs)) (by decide))) (Z7 (Ext.refl r).toks (Wt (by rw[hl])) h)
theorem CALL.range{n:Int}(h:P (.rng 0 n) B):CALL X (.type "range") [.int n] B P:=fun Z s vs r hvs=>by
 obtain⟨v,rfl,t,rfl⟩:=vs1 hvs;refine call_range_1 ?_;obtain⟨x,_⟩:=(Ext.refl r).pushZ {cls:=.type "range",data:=.fields #[.int 0 s.toks,.int n t,.int 1 (s.toks + 1)]};exact Z7 x.toks (Ji Zput.self) h
theorem We{l:List Int}{f:Nat->Int}(hf:∀ j,j < l.length->f j=l.getD j 0):∀ j ≤ l.length,preSum f j=(l.take j).sum
 | 0,_=>by simp[preSum]
 | j + 1,hj=>by
  rw[preSum,We hf j (le_of_succ_le hj),hf j (by assumption)]
  haveI hl:j < l.length:=by assumption
  rw[List.take_succ_eq_append_getElem hl,sum_append];simp[List.getD,getElem?_eq_getElem hl]
theorem VsRel.ints{Z:ZM}:∀ {l:List Int} {vs:List Value},VsRel X.prog X.w Z (l.map V.int) vs->∃ xs:List (Int × Tok),vs=xs.map (fun p=>.int p.1 p.2) /\ xs.map (·.1)=l
 | [],_,h=>by cases h;exact⟨[],rfl,rfl⟩
 | i::l,_,⟨v,r,e,⟨t,ht⟩,q⟩=>by
  subst e;subst ht;obtain⟨xs,rfl,rfl⟩:=VsRel.ints q;exact⟨(i,t)::xs,rfl,rfl⟩
theorem R0{ao:Int}(hB:0 ≤ ao):∀ (l:List Int),(∀ i ∈ l, -ao ≤ i /\ i ≤ ao)-> -(l.length * ao) ≤ l.sum /\ l.sum ≤ l.length * ao
 | [],_=>by simp
 | a::l,h=>by
  haveI:=R0 hB l fun i hi=>h i (.tail _ hi)
  haveI ha:=h a (.head _)
  haveI e:((a::l).length:Int) * ao=l.length * ao + ao:=by push_cast [length_cons];rw[Int.add_mul,one_mul]
  rw[sum_cons,e];exact⟨Int.le_trans (Int.le_of_eq (Int.neg_add.trans (add_comm ..))) (Int.add_le_add ha.1 this.1),Int.le_trans (Int.le_of_eq (add_comm ..)) (Int.add_le_add this.2 ha.2)⟩
theorem CALL.sum{l:List Int}(hA:X.A.handled=none)(hs:l.length ≤ 1000)(hb:∀ i ∈ l, -(2 ^ 40) ≤ i /\ i ≤ 2 ^ 40)(h:P (.int l.sum) B):CALL X (.builtin "sum") [.list (l.map V.int)] B P:=fun Z s vs r hvs=>by
 obtain⟨v,rfl,a,its,n,rfl,z,hr⟩:=vs1 hvs;obtain⟨xs,hx,rfl⟩:=VsRel.ints hr
 haveI hi:its=intItems xs.toArray:=by rw[<- Array.toArray_toList (xs:=its),hx];simp[intItems]
 haveI hf:∀ j,j < (xs.map (·.1)).length->numAt xs.toArray j=(xs.map (·.1)).getD j 0:=fun j hj=>by
  simp at hj;simp[numAt,hj]
 refine sum_intList hA (xs:=xs.toArray) (hi ▸ (r.plist z).isList) (fun j hj=>?_) fun h' tk t' hk=>?_
 ·simp at hj
  haveI e:=We hf (j + 1) (by simp;assumption)
  haveI hn:numAt xs.toArray j ∈ xs.map (·.1):=by
   haveI hj':j < (xs.map (·.1)).length:=by exact Pg (hj)
   rw[hf j hj',getD_eq_getElem?_getD,getElem?_eq_getElem hj'];exact getElem_mem hj'
  haveI b1:=hb _ hn
  haveI b2:=R0 (ao:=2 ^ 40) (by decide) ((xs.map (·.1)).take (j + 1)) fun i hi=>hb i (List.mem_of_mem_take hi)
  haveI b3:((xs.map (·.1)).take (j + 1)).length ≤ 1000:=le_trans (by rw[length_take];exact(min_le_right ..)) hs
  rw[<- e] at b2;unfold InLong
  constructor
  ·exact⟨(Int.le_trans (by decide) b1.1),(Int.lt_of_le_of_lt b1.2 (by decide))⟩
  ·haveI m:=Int.mul_le_mul_of_nonneg_right (ofNat_le.mpr b3) (by decide:(0:Int) ≤ 2 ^ 40)
   exact⟨Int.le_trans (Int.le_trans (by decide) (Int.neg_le_neg m)) b2.1,Int.lt_of_le_of_lt b2.2 (Int.lt_of_le_of_lt m (by decide))⟩
 ·haveI e:=We hf xs.length (by simp)
  rw[take_of_length_le (by exact Ib (le_refl _))] at e;exact Z7 (Ext.keepAll r hk) (Wt (by rw[<- e];rfl)) h
end
end Mine
end
section
open PySem PySem.Spec PySem.Calls PyProof.Rows PySem.W PySem.SeqAt
namespace Mine
section
variable{X:Cx}{B B':St}{Z Z':ZM}{s s':Shared}{P:V->St->Prop}
noncomputable def Wr:List (Option Bool)->Option Bool
 | []=>some true
 | x::l=>match x,Wr l with
  | some a,some b=>some (a && b)
  | _,_=>none
noncomputable def veq:Nat->V->V->Option Bool
 | 0,_,_=>none
 | n + 1,d,e=>match d with
  | .none=>match e with
   | .none=>some true
   | _=>none
  | .bool a=>match e with
   | .bool b=>some (a == b)
   | _=>none
  | .int a=>match e with
   | .int b=>some (a == b)
   | _=>none
  | .str a=>match e with
   | .str b=>some (a == b)
   | _=>none
  | .tup l=>match e with
   | .tup l'=>(Wr (zipWith (veq n) l l')).map fun b=>b && l.length == l'.length
   | _=>none
  | .list l=>match e with
   | .list l'=>if l.length == l'.length then Wr (zipWith (veq n) l l') else some false
   | _=>none
  | _=>none
inductive O0(n:Nat):V->V->Bool->Prop
 | none:O0 n .none .none true
 | bool (a b):O0 n (.bool a) (.bool b) (a == b)
 | int (a b):O0 n (.int a) (.int b) (a == b)
 | str (a b):O0 n (.str a) (.str b) (a == b)
 | tup (l l' c) (h:Wr (zipWith (veq n) l l')=some c):O0 n (.tup l) (.tup l') (c && l.length == l'.length)
 | list (l l' b) (h:(if l.length == l'.length then Wr (zipWith (veq n) l l') else some false)=some b):O0 n (.list l) (.list l') b
theorem Yj{α:Type}{b:α}{p:Prop}(h:Option.none=some b):p:=nomatch h
theorem Td{n:Nat}{d e:V}{b:Bool}(h:veq (n + 1) d e=some b):O0 n d e b:=by
 cases d with
 | none=>cases e with
  | none=>rw[<- Option.some.inj h];exact .none
  | _=>exact Yj h
 | bool a=>cases e with
  | bool c=>rw[<- Option.some.inj h];exact .bool ..
  | _=>exact Yj h
 | int a=>cases e with
  | int c=>rw[<- Option.some.inj h];exact .int ..
  | _=>exact Yj h
 | str a=>cases e with
  | str c=>rw[<- Option.some.inj h];exact .str ..
  | _=>exact Yj h
 | tup l=>cases e with
  | tup l'=>obtain⟨c,hc,rfl⟩:=Option.map_eq_some_iff.mp h;exact .tup _ _ _ hc
  | _=>exact Yj h
 | list l=>cases e with
  | list l'=>exact .list _ _ _ h
  | _=>exact Yj h
 | _=>exact Yj h
theorem Xv:∀ {l:List (Option Bool)} {b:Bool},Wr l=some b->(∀ (i:Nat) (h:i < l.length),l[i]=some ((l[i]?.getD (some true)).getD true)) /\ b=(List.range l.length).all fun i=>(l[i]?.getD (some true)).getD true
 | [],b,h=>by cases h;decide
 | x::l,b,h=>by
  cases x with
  | none=>contradiction
  | some a=>
   cases hc:Wr l with
   | none=>simp[Wr,hc] at h
   | some c=>
    simp only[Wr,hc,Option.some.injEq] at h;subst h;obtain⟨h1,h2⟩:=Xv hc;refine⟨fun i hi=>?_,?_⟩
    ·cases i with
     | zero=>rfl
     | succ i=>have:=h1 i (by simpa using hi);exact this
    ·rw[length_cons,List.range_succ_eq_map,List.all_cons,List.all_map,h2];rfl
theorem VsRel.at(h:VsRel X.prog X.w Z l vs)(i:Nat)(hi:i < l.length)(hi':i < vs.length):VRel X.prog X.w Z l[i] vs[i]:=by
 obtain⟨v,hv,hr⟩:=h.get (getElem?_eq_getElem hi);rw[getElem?_eq_getElem hi'] at hv;cases hv;exact hr
theorem Nt:∀ n d e b v,veq n d e=some b->VRel X.prog X.w Z d v->VRel X.prog X.w Z e v->b=true:=by
 intro n
 induction n with
 | zero=>intro d e b v h;exact Yj h
 | succ n ih=>
  have seq:∀ l l' vs b,Wr (zipWith (veq n) l l')=some b->VsRel X.prog X.w Z l vs->VsRel X.prog X.w Z l' vs->b=true:=by
   intro l l' vs b h h1 h2;obtain⟨k1,rfl⟩:=Xv h;rw[all_eq_true];intro i hi;rw[mem_range] at hi;have e1:=k1 i hi;rw[List.getElem_zipWith] at e1;rw[length_zipWith] at hi;have a1:=h1.length;have a2:=h2.length;exact ih _ _ _ _ e1 (h1.at i (by exact(lt_of_lt_of_le hi (min_le_left ..))) (by exact(lt_of_lt_of_le (lt_of_lt_of_le hi (min_le_left ..)) (le_of_eq a1.symm)))) (h2.at i (by exact(lt_of_lt_of_le hi (min_le_right ..))) (by exact(lt_of_lt_of_le (lt_of_lt_of_le hi (min_le_left ..)) (le_of_eq a1.symm))))
  intro d e b v h h1 h2;have hi:=Td h;clear h
  induction hi with
  | none=>rfl
  | bool a c=>cases (show v=.bool _ from h1);cases (show Value.bool _=.bool _ from h2);exact beq_self_eq_true _
  | int a c=>obtain⟨t,rfl⟩:=h1;obtain⟨u,e⟩:=h2;cases e;exact beq_self_eq_true _
  | str a c=>obtain⟨t,rfl⟩:=h1;obtain⟨u,e⟩:=h2;cases e;exact beq_self_eq_true _
  | tup l l' c hq=>
   obtain⟨a,its,m,rfl,z,r⟩:=h1;obtain⟨a',its',m',e,z',r'⟩:=h2;cases e;rw[z] at z';cases z';rw[seq _ _ _ _ hq r r',<- r.length,<- r'.length,beq_self_eq_true];rfl
  | list l l' b h=>
   obtain⟨a,its,m,rfl,z,r⟩:=h1;obtain⟨a',its',m',e,z',r'⟩:=h2;cases e;rw[z] at z';cases z';rw[if_pos (by rw[<- r.length,<- r'.length];exact beq_self_eq_true _)] at h;exact seq _ _ _ _ h r r'
theorem J9{A:Around}{v u:Value}{a a':Addr}{b:Bool}(hs:a=a'->b=true)(R:RcAt A s (.ref a) (.ref a') b):EqAt A s (.ref a) (.ref a') b:=by
 by_cases ha:a=a'
 ·subst ha;rw[hs rfl];exact EqAt.same _
 ·exact EqAt.of_refs ha R
theorem Qp(n:Nat)(ih:∀ (A:Around) d e b v u,veq n d e=some b->VRel X.prog X.w Z d v->VRel X.prog X.w Z e u->A.units + n < cLine->EqAt A s v u b){A:Around}(hu:A.units + n < cLine){l l':List V}{its its':Array Value}{c:Bool}(hc:Wr (zipWith (veq n) l l')=some c)(r:VsRel X.prog X.w Z l its.toList)(r':VsRel X.prog X.w Z l' its'.toList):
  ∃ f:Nat->Bool,(∀ j (h1:j < its.size) (h2:j < its'.size),EqAt A s its[j] its'[j] (f j)) /\ c=(List.range (min its.size its'.size)).all f:=by
 obtain⟨k1,hk⟩:=Xv hc;have e1:its.size=l.length:=r.length;have e2:its'.size=l'.length:=r'.length;refine⟨_,fun j hj hj'=>?_,by rw[hk,length_zipWith,e1,e2]⟩;have q:=k1 j (by rw[length_zipWith,<- e1,<- e2];exact Nat.lt_min.mpr ⟨hj,hj'⟩);rw[List.getElem_zipWith] at q;exact ih A _ _ _ _ _ q (r.at j (e1 ▸ hj) hj) (r'.at j (e2 ▸ hj') hj') hu
theorem Rv(hz:∀ a o,Z a=some o->s.heap.get? a=some o):∀ n (A:Around) d e b v u,veq n d e=some b->VRel X.prog X.w Z d v->VRel X.prog X.w Z e u->A.units + n < cLine->
  RcAt A s v u b /\ RcNeAt A s v u (!b) /\ EqAt A s v u b:=by
 intro n
 induction n with
 | zero=>intro A d e b v u h;exact Yj h
 | succ n ih=>
  intro A d e b v u h h1 h2 hu;have hu':A.units < cLine:=lt_of_le_of_lt (le_add_right _ _) hu;have hu1:A.in1.units + n < cLine:=by show A.units + 1 + n < cLine;rw[add_right_comm];exact hu
  have hsame:=fun v=>Nt (X:=X) (Z:=Z) (n + 1) d e b v h;have hi:=Td h;clear h
  induction hi with
  | none=>cases (show v=.none from h1);cases (show u=.none from h2);exact⟨RcAt.none_none,RcNeAt.none_none,EqAt.same _⟩
  | bool a c=>cases (show v=.bool _ from h1);cases (show u=.bool _ from h2);exact⟨RcAt.bool_bool _ _,RcNeAt.bool_bool _ _,EqAt.bool_bool _ _⟩
  | int a c=>obtain⟨t,rfl⟩:=h1;obtain⟨t',rfl⟩:=h2;exact⟨RcAt.int_int _ _ _ _,RcNeAt.int_int _ _ _ _,EqAt.int_int _ _ _ _⟩
  | str a c=>obtain⟨t,rfl⟩:=h1;obtain⟨t',rfl⟩:=h2;exact⟨RcAt.str_str _ _ _ _,RcNeAt.str_str _ _ _ _,EqAt.str_str _ _ _ _⟩
  | tup l l' c hq=>
   obtain⟨a,its,m,rfl,z,r⟩:=id h1;obtain⟨a',its',m',rfl,z',r'⟩:=id h2;obtain⟨f,hf,rfl⟩:=Qp n (fun A d e b v u q1 q2 q3 q4=>(ih A d e b v u q1 q2 q3 q4).2.2) hu1 hq r r';have el:its.size=l.length:=r.length;have el':its'.size=l'.length:=r'.length;have R:=RcAt.tuples ⟨_,hz _ _ z,rfl,_,rfl⟩ ⟨_,hz _ _ z',rfl,_,rfl⟩ hu' hf;have N:=RcNeAt.tuples ⟨_,hz _ _ z,rfl,_,rfl⟩ ⟨_,hz _ _ z',rfl,_,rfl⟩ hu' hf;rw[<- el,<- el'] at hsame ⊢;exact⟨R,N,J9 (u:=.ref a) (v:=.ref a) (fun ha=>by subst ha;exact hsame _ h1 h2) R⟩
  | list l l' b h=>
   obtain⟨a,its,m,rfl,z,r⟩:=id h1;obtain⟨a',its',m',rfl,z',r'⟩:=id h2;have t1:s.heap.IsList a its:=⟨_,hz _ _ z,rfl,_,rfl⟩
   have t2:s.heap.IsList a' its':=⟨_,hz _ _ z',rfl,_,rfl⟩
   have el:its.size=l.length:=r.length;have el':its'.size=l'.length:=r'.length
   have core:RcAt A s (.ref a) (.ref a') b /\ RcNeAt A s (.ref a) (.ref a') (!b):=by
    rw[<- el,<- el'] at h;split at h
    ·rename_i hl;obtain⟨f,hf,rfl⟩:=Qp n (fun A d e b v u q1 q2 q3 q4=>(ih A d e b v u q1 q2 q3 q4).2.2) hu1 h r r';have R:=RcAt.lists t1 t2 (eq_of_beq hl) hu' hf;have N:=RcNeAt.lists t1 t2 (eq_of_beq hl) hu' hf;rw[eq_of_beq hl,min_self];rw[eq_of_beq hl] at R N;exact⟨R,N⟩
    ·rename_i hl;cases h;have hl':(its.size != its'.size)=true:=by rw[bne,eq_false_of_ne_true hl];rfl
     exact⟨RcAt.lists_lengths t1 t2 hl' hu',RcNeAt.lists_lengths t1 t2 hl' hu'⟩
   exact⟨core.1,core.2,J9 (u:=.ref a) (v:=.ref a) (fun ha=>by subst ha;exact hsame _ h1 h2) core.1⟩
theorem CMP.eqv{k:Nat}{d e:V}{b:Bool}(n:Nat)(hA:Rm X.A k)(hb:veq n d e=some b)(h:P (.bool b) B)(hn:n ≤ 700:=by decide):CMP X .Eq d e B P:=fun Z s v u r h1 h2=>by
 exact(Rv r.zin n X.A d e b v u hb h1 h2 (hA.clN hn)).1 _ _ _ _ (Z7 (Ext.refl r) Zg h)
theorem CMP.nev{k:Nat}{d e:V}{b:Bool}(n:Nat)(hA:Rm X.A k)(hb:veq n d e=some b)(h:P (.bool (!b)) B)(hn:n ≤ 700:=by decide):CMP X .NotEq d e B P:=fun Z s v u r h1 h2=>by
 exact(Rv r.zin n X.A d e b v u hb h1 h2 (hA.clN hn)).2.1 _ _ _ _ (Z7 (Ext.refl r) Zg h)
theorem VsRel.length'{l:List V}{its:Array Value}(h:VsRel X.prog X.w Z l its.toList):its.size=l.length:=by rw[<- h.length];simp
noncomputable def X3(l:List V)(lo hi st:Option Int):List V:=
 (sliceRange (sliceBounds lo hi st l.length).1 (sliceBounds lo hi st l.length).2.1 (sliceBounds lo hi st l.length).2.2).filterMap (l[·]?)
theorem VsRel.pick{l:List V}{vs:List Value}(h:VsRel X.prog X.w Z l vs):∀ js:List Nat,VsRel X.prog X.w Z (js.filterMap (l[·]?)) (js.filterMap (vs[·]?))
 | []=>rfl
 | j::js=>by
  haveI ih:=h.pick js
  cases e:l[j]? with
  | none=>
   haveI:vs[j]?=none:=by rw[List.getElem?_eq_none_iff] at e ⊢;rw[h.length];exact e
   rw[List.filterMap_cons_none e,List.filterMap_cons_none this];exact ih
  | some d=>
   obtain⟨v,hv,hr⟩:=h.get e;rw[List.filterMap_cons_some e,List.filterMap_cons_some hv];exact⟨v,_,rfl,hr,ih⟩
theorem SUB.sliceL{l:List V}{lo hi st:Option Int}(hs:l.length ≤ sizeLine)(h0:st ≠ some 0)(h:P (.list (X3 l lo hi st)) B):SUB X (.list l) (.slc lo hi st) B P:=fun Z s v1 v2 r h1 h2=>by
 obtain⟨a,its,n,rfl,ha,hr⟩:=h1;obtain⟨b,lv,uv,sv,rfl,hb,p1,p2,p3⟩:=h2
 haveI pl:=(r.plist ha).isList
 refine⟨⟨_,_,⟨_,r.zin _ _ ha,rfl⟩,slot_list_getitem.lookup⟩,?_⟩;refine wpAny_getItem_list_slice pl ⟨_,r.zin _ _ hb,rfl,rfl⟩ p1 p2 p3 h0 ?_ (by rw[hr.length'];exact hs);obtain⟨x,hle⟩:=(Ext.refl r).pushZ {cls:=.type "list",data:=.seq (slicePick its lo hi st)};refine Z7 x (Xz Zput.self ?_) h
 haveI q:VsRel X.prog X.w Z (X3 l lo hi st) (slicePick its lo hi st).toList:=by
  delta slicePick X3
  rw[hr.length']
  simpa using hr.pick (sliceRange (sliceBounds lo hi st l.length).1 (sliceBounds lo hi st l.length).2.1 (sliceBounds lo hi st l.length).2.2)
 exact VsRel.mono hle q
theorem BIN.addL{l l':List V}(h:P (.list (l++l')) B)(hs:l.length + l'.length ≤ sizeLine):BIN X .Add (.list l) (.list l') B P:=fun Z s v1 v2 r h1 h2=>by
 obtain⟨a,its,n,rfl,ha,hr⟩:=h1;obtain⟨b,its',n',rfl,hb,hr'⟩:=h2;refine PySem.P.add_list (r.zin _ _ ha) (r.zin _ _ hb) ?_ (by rw[hr.length',hr'.length'];exact hs);obtain⟨x,hle⟩:=(Ext.refl r).pushZ {cls:=.type "list",data:=.seq (its++its')};refine Z7 x (Xz Zput.self ?_) h;rw[Array.toList_append];exact(VsRel.append hr hr').mono hle
theorem VsRel.rep{l:List V}{vs:List Value}(h:VsRel X.prog X.w Z l vs):∀ k:Nat,VsRel X.prog X.w Z (replicate k l).flatten (replicate k vs).flatten
 | 0=>by simp;rfl
 | k + 1=>by rw[replicate_succ,replicate_succ,List.flatten_cons,List.flatten_cons];exact h.append (h.rep k)
theorem BIN.mulL{l:List V}{k:Int}(h:P (.list (replicate k.toNat l).flatten) B)(h0:l ≠ [])(hs:l.length * k.toNat ≤ 2 ^ 24)(hk: -(2 ^ 63) ≤ k /\ k < 2 ^ 63):BIN X .Mult (.list l) (.int k) B P:=fun Z s v1 v2 r h1 h2=>by
 obtain⟨a,its,n,rfl,ho,hr⟩:=h1;obtain⟨u,rfl⟩:=h2
 haveI ho:=r.zin _ _ ho
 haveI hlen:=hr.length'
 haveI hsz:its.size * k.toNat ≤ 2 ^ 24:=by rw[hlen];exact hs
 haveI hne:its.isEmpty=false:=by
  rw[Array.isEmpty_eq_false_iff];intro e;apply h0;subst e;exact List.length_eq_zero_iff.mp (by exact hlen.symm)
 refine wpAny_binaryOp_repeat_ref (T:= "list") (U:= "int") (by decide) ⟨_,ho,rfl⟩ (fun s'=>typeIs_int s' k u) noFill_list_mul F.fills_int_mul F.slot_int_rmul repeat_list F.slot_int_index.lookup
  (call_meets F.slot_int_rmul (typeIs_int s k u) F.entry_int_rmul (F.args_int_rmul_2 _ _) (lm_int_rmul_list_any k u a its n none #[])
   ⟨ho,rfl,⟨_,ho,rfl⟩,call_meets F.slot_list_mul ⟨_,ho,rfl⟩ F.entry_list_mul (F.args_list_mul_2 _ _)
    (lm_list_mul_any a its n none #[] k u (by simp[Builtin.List.listFitsIndex];assumption) (not_lt.mpr (le_trans hsz (by decide))) (by simp[Builtin.List.listTooLong,sizeLine];assumption))
    ⟨ho,?_⟩⟩)
 rw[hne];obtain⟨x,hle⟩:=(Ext.refl r).pushZ {cls:=Value.type "list",data:=Data.seq (List.foldl (fun x1 x2=>x1++x2) #[] (replicate k.toNat its))};refine Z7 x (Xz Zput.self ?_) h
 haveI q:VsRel X.prog X.w Z (replicate k.toNat l).flatten (List.foldl (fun x1 x2=>x1++x2) #[] (replicate k.toNat its)).toList:=by
  rw[listMul_foldl];exact hr.rep k.toNat
 exact VsRel.mono hle q
noncomputable def veqP(n:Nat)(d:V)(b:Bool):V->Prop
 | .none=>d=.none /\ b=true
 | .bool c=>∃ a,d=.bool a /\ b=(a == c)
 | .int c=>∃ a,d=.int a /\ b=(a == c)
 | .str c=>∃ a,d=.str a /\ b=(a == c)
 | .tup l'=>∃ l c,d=.tup l /\ Wr (zipWith (veq n) l l')=some c /\ b=(c && l.length == l'.length)
 | .list l'=>∃ l,d=.list l /\ (if l.length == l'.length then Wr (zipWith (veq n) l l') else some false)=some b
 | _=>True
theorem Sy{n:Nat}{d e:V}{b:Bool}(h:veq (n + 1) d e=some b):veqP n d b e:=by
 haveI hi:=Td h
 clear h
 induction hi with
 | none=>exact⟨rfl,rfl⟩
 | bool a c=>exact⟨a,rfl,rfl⟩
 | int a c=>exact⟨a,rfl,rfl⟩
 | str a c=>exact⟨a,rfl,rfl⟩
 | tup l l' c h=>exact⟨l,c,rfl,h,rfl⟩
 | list l l' b h=>exact⟨l,rfl,h⟩
theorem Qw{n:Nat}(ih:∀ d d' e b b' v,veq n d e=some b->veq n d' e=some b'->VRel X.prog X.w Z d v->VRel X.prog X.w Z d' v->b=b'){l l' le:List V}{vs:List Value}{b b':Bool}
  (h:Wr (zipWith (veq n) l le)=some b) (h':Wr (zipWith (veq n) l' le)=some b') (h1:VsRel X.prog X.w Z l vs) (h2:VsRel X.prog X.w Z l' vs):b=b':=by
 haveI a1:=h1.length;haveI a2:=h2.length
 haveI hl:(zipWith (veq n) l le).length=(zipWith (veq n) l' le).length:=by rw[length_zipWith,length_zipWith,<- a1,<- a2]
 obtain⟨k1,rfl⟩:=Xv h;obtain⟨k2,rfl⟩:=Xv h';rw[<- hl]
 haveI one:∀ i ∈ List.range (zipWith (veq n) l le).length,((zipWith (veq n) l le)[i]?.getD (some true)).getD true=((zipWith (veq n) l' le)[i]?.getD (some true)).getD true:=by
  intro i hi;rw[mem_range] at hi
  haveI e1:=k1 i hi
  haveI e2:=k2 i (hl ▸ hi)
  rw[List.getElem_zipWith] at e1 e2;rw[length_zipWith] at hi
  haveI hi1:=lt_of_lt_of_le hi (min_le_left _ _)
  haveI hi2:i < l'.length:=by rw[<- a2,a1];exact hi1
  exact ih _ _ _ _ _ _ e1 e2 (h1.at i hi1 (a1 ▸ hi1)) (h2.at i hi2 (a2 ▸ hi2))
 rw[Bool.eq_iff_iff,all_eq_true,all_eq_true];exact⟨fun q i hi=>(one i hi).symm.trans (q i hi),fun q i hi=>(one i hi).trans (q i hi)⟩
theorem Lh:∀ n d d' e b b' v,veq n d e=some b->veq n d' e=some b'->VRel X.prog X.w Z d v->VRel X.prog X.w Z d' v->b=b':=by
 intro n
 induction n with
 | zero=>intro d d' e b b' v h;exact Yj h
 | succ n ih=>
  intro d d' e b b' v h h' h1 h2
  haveI hi:=Td h
  clear h
  induction hi with
  | none=>exact(Sy h').2.symm
  | bool a c=>
   obtain⟨a',rfl,rfl⟩:=Sy h';cases (show v=.bool _ from h1);cases (show Value.bool _=.bool _ from h2);rfl
  | int a c=>
   obtain⟨a',rfl,rfl⟩:=Sy h';obtain⟨t,rfl⟩:=h1;obtain⟨u,e⟩:=h2;cases e;rfl
  | str a c=>
   obtain⟨a',rfl,rfl⟩:=Sy h';obtain⟨t,rfl⟩:=h1;obtain⟨u,e⟩:=h2;cases e;rfl
  | tup l le c hq=>
   obtain⟨l',c',rfl,hq',rfl⟩:=Sy h';obtain⟨a,its,m,rfl,z,r⟩:=h1;obtain⟨a',its',m',e,z',r'⟩:=h2;cases e;rw[z] at z';cases z';rw[Qw ih hq hq' r r',<- r.length,<- r'.length]
  | list l le b h=>
   obtain⟨l',rfl,q'⟩:=Sy h';obtain⟨a,its,m,rfl,z,r⟩:=h1;obtain⟨a',its',m',e,z',r'⟩:=h2;cases e;rw[z] at z';cases z';rw[<- r.length] at h;rw[<- r'.length] at q';split at h
   ·rename_i hh;rw[if_pos hh] at q';exact Qw ih h q' r r'
   ·rename_i hh;rw[if_neg hh] at q';exact(Option.some.inj h).symm.trans (Option.some.inj q')
theorem Wm{n:Nat}{e:V}{u:Value}{l:List V}{its:Array Value}{A:Around}(hz:∀ a o,Z a=some o->s.heap.get? a=some o){f:V->Bool}(hf:∀ d ∈ l,veq n d e=some (f d))(hl:VsRel X.prog X.w Z l its.toList)(he:VRel X.prog X.w Z e u)(hA:A.units + n < cLine):
  ∃ g:Value->Bool,(∀ y,y ∈ its->EqAt A s y u (g y)) /\ its.toList.map g=l.map f:=by
 classical
 haveI key:∀ d ∈ l,∀ y,VRel X.prog X.w Z d y->(if h:∃ d ∈ l,VRel X.prog X.w Z d y then f h.choose else false)=f d:=by
  intro d hd y hy
  haveI hh:∃ d ∈ l,VRel X.prog X.w Z d y:=⟨d,hd,hy⟩
  rw[dif_pos hh];exact Lh n _ _ e _ _ y (hf _ hh.choose_spec.1) (hf _ hd) hh.choose_spec.2 hy
 refine⟨fun y=>if h:∃ d ∈ l,VRel X.prog X.w Z d y then f h.choose else false,fun y hy=>?_,?_⟩
 ·obtain⟨j,hj,rfl⟩:=mem_iff_getElem.mp (Array.mem_toList_iff.mpr hy)
  haveI hj':j < l.length:=by rw[<- hl.length];exact hj
  haveI hr:=hl.at j hj' hj
  haveI hm:=getElem_mem hj'
  show EqAt A s its.toList[j] u (if h:∃ d ∈ l,VRel X.prog X.w Z d its.toList[j] then f h.choose else false);rw[key _ hm _ hr];exact(Rv hz n A _ _ _ _ _ (hf _ hm) hr he hA).2.2
 ·refine List.ext_getElem (by simp[hl.length']) fun j h1 h2=>?_;rw[List.getElem_map,List.getElem_map]
  haveI hj':j < l.length:=by simpa using h2
  haveI hj:j < its.toList.length:=by simpa using h1
  exact key _ (getElem_mem hj') _ (hl.at j hj' hj)
theorem any_map{α β:Type}{l:List α}{l':List β}{f:α->Bool}{g:β->Bool}(h:l.map f=l'.map g):l.any f=l'.any g:=by
 haveI e1:l.any f=(l.map f).any id:=by rw[List.any_map];rfl
 rw[e1,h,List.any_map];rfl
theorem CMP.inL{k:Nat}{e:V}{l:List V}{f:V->Bool}(n:Nat)(hA:Rm X.A k)(hf:∀ d ∈ l,veq n d e=some (f d))(h:P (.bool (l.any f)) B)(hn:n ≤ 700:=by decide):CMP X .In e (.list l) B P:=fun Z s v u r h1 h2=>by
 obtain⟨a,its,m,rfl,ha,hr⟩:=h2;obtain⟨g,hg,hm⟩:=Wm (A:=X.A.in1) r.zin hf hr h1 (hA.cl1 hn);refine in_listAt g (r.plist ha).isList hg (Z7 (Ext.refl r) Zg ?_);rw[<- Array.any_toList,any_map hm];exact h
theorem CMP.inT{k:Nat}{e:V}{l:List V}{f:V->Bool}(n:Nat)(hA:Rm X.A k)(hf:∀ d ∈ l,veq n d e=some (f d))(h:P (.bool (l.any f)) B)(hn:n ≤ 700:=by decide):CMP X .In e (.tup l) B P:=fun Z s v u r h1 h2=>by
 obtain⟨a,its,m,rfl,ha,hr⟩:=h2;obtain⟨g,hg,hm⟩:=Wm (A:=X.A.in1) r.zin hf hr h1 (hA.cl1 hn);refine in_tupleAt g ⟨_,r.zin _ _ ha,rfl,_,rfl⟩ hg (Z7 (Ext.refl r) Zg ?_);rw[<- Array.any_toList,any_map hm];exact h
theorem CALL.count{k:Nat}{e:V}{l:List V}{f:V->Bool}(n:Nat)(hA:Rm X.A k)(hf:∀ d ∈ l,veq n d e=some (f d))(h:P (.int (l.countP f:Nat)) B)(hn:n ≤ 700:=by decide):CALL X (.builtin "list.count") [.list l,e] B P:=fun Z s vs r hvs=>by
 obtain⟨v,u,rfl,⟨a,its,m,rfl,ha,hr⟩,h1⟩:=vs2 hvs;obtain⟨g,hg,hm⟩:=Wm (A:=X.A.in1) r.zin hf hr h1 (hA.cl1 hn);refine call_meets F.slot_list_count ⟨_,r.zin _ _ ha,rfl⟩ F.entry_list_count (F.args_list_count_2 _ _) (list_countAt a its m none #[] u g) ⟨r.zin _ _ ha,hg,Z7 (Ext.refl r).toks (Wt ?_) h⟩
 haveI e1:its.toList.countP g=(its.toList.map g).countP id:=by rw[countP_map];rfl
 rw[e1,hm,countP_map];rfl
theorem CALL.index{k:Nat}{e:V}{l:List V}{f:V->Bool}(n:Nat)(hA:Rm X.A k)(hf:∀ d ∈ l,veq n d e=some (f d)){j:Nat}(hj:(l.map f).findIdx? id=some j)(hs:l.length ≤ sizeLine)(h:P (.int j) B)(hn:n ≤ 700:=by decide):CALL X (.builtin "list.index") [.list l,e] B P:=fun Z s vs r hvs=>by
 obtain⟨v,u,rfl,⟨a,its,m,rfl,ha,hr⟩,h1⟩:=vs2 hvs;obtain⟨g,hg,hm⟩:=Wm (A:=X.A.in1) r.zin hf hr h1 (hA.cl1 hn);rw[<- hm] at hj;obtain⟨hlt,hp,hno⟩:=List.findIdx?_eq_some_iff_getElem.mp hj
 haveI hlt':j < its.size:=by exact Nat.lt_of_lt_of_eq (hlt) (length_map ..)
 haveI hsz:=hr.length'
 haveI sl:sizeLine < 2 ^ 60:=by decide
 refine call_meets F.slot_list_index ⟨_,r.zin _ _ ha,rfl⟩ F.entry_list_index (F.args_list_index_2 _ _) (list_indexAt a its m none #[] u g j hlt' (by exact(Int.lt_of_lt_of_le (Int.lt_of_lt_of_le (Int.lt_of_lt_of_le (ofNat_lt.mpr hlt') (ofNat_le.mpr (le_of_eq hsz))) (ofNat_le.mpr hs)) (by decide))) (by simpa using hp) (fun i hi hij=>?_)) ⟨r.zin _ _ ha,hg,Z7 (Ext.refl r).toks (Wt rfl) h⟩
 haveI:=hno i hij
 simpa using this
theorem CALL.append{a:Addr}{l:List V}{d:V}{mem'}(hm:(a,Cell.list l) ∈ B.mem)(hu:UpM a (.list (l++[d])) B.mem mem')(h:P .none {B with mem:=mem'})(hs:l.length ≤ sizeLine):CALL X (.builtin "list.append") [.ref a,d] B P:=fun Z s vs r hvs=>by
 obtain⟨v,u,rfl,h0,hd⟩:=vs2 hvs;cases h0;obtain⟨its,⟨m,hp⟩,hr⟩:=r.mem _ hm
 haveI hsz:=hr.length'
 refine call_meets F.slot_list_append ⟨_,hp,rfl⟩ F.entry_list_append (F.args_list_append_2 _ _) (PySem.list_append a its m u (by exact(le_trans (le_of_eq hsz) hs))) ⟨hp,?_⟩;obtain⟨hp',hs'⟩:=PlainList.upd ⟨m,hp⟩ fun xs=>xs.push u;refine Z7 (r.setMem hu hs' ⟨_,hp',?_⟩) Xd h;rw[Array.toList_push];exact hr.append ⟨u,[],rfl,hd,rfl⟩
theorem VsRel.eraseIdx{l:List V}{vs:List Value}(h:VsRel X.prog X.w Z l vs)(i:Nat):VsRel X.prog X.w Z (l.eraseIdx i) (vs.eraseIdx i):=by
 refine VsRel.of_get (by rw[List.length_eraseIdx,List.length_eraseIdx,h.length]) fun j d v h1 h2=>?_;rw[List.getElem?_eraseIdx] at h1 h2;split at h1
 ·rename_i hh;rw[if_pos hh] at h2;obtain⟨v',hv',hr⟩:=h.get h1;rw[h2] at hv';cases hv';exact hr
 ·rename_i hh;rw[if_neg hh] at h2;obtain⟨v',hv',hr⟩:=h.get h1;rw[h2] at hv';cases hv';exact hr
theorem CALL.pop{a:Addr}{l:List V}{d:V}{mem'}(hm:(a,Cell.list (l++[d])) ∈ B.mem)(hu:UpM a (.list l) B.mem mem')(h:P d {B with mem:=mem'})(hs:l.length + 1 ≤ sizeLine):CALL X (.builtin "list.pop") [.ref a] B P:=fun Z s vs r hvs=>by
 obtain⟨v,rfl,h0⟩:=vs1 hvs;cases h0;obtain⟨its,⟨m,hp⟩,hr⟩:=r.mem _ hm
 haveI hsz:=hr.length'
 simp only[length_append,length_cons,length_nil] at hsz;obtain⟨y,hy,hyr⟩:=hr.get (i:=l.length) (d:=d) (by simp)
 haveI hy':its[its.size - 1]?=some y:=by rw[hsz];simpa using hy
 refine call_meets F.slot_list_pop ⟨_,hp,rfl⟩ F.entry_list_pop (F.args_list_pop_1 _) (PySem.MeetsSeq.list_pop_last a its m y hy' (le_trans (le_of_eq hsz) hs)) ⟨hp,?_⟩;obtain⟨hp',hs'⟩:=PlainList.upd ⟨m,hp⟩ fun xs=>xs.eraseIdxIfInBounds (its.size - 1);refine Z7 (r.setMem hu hs' ⟨_,hp',?_⟩) hyr h
 haveI:=hr.eraseIdx (its.size - 1)
 rw[Array.eraseIdxIfInBounds,dif_pos (by rw[hsz];exact lt_succ_self _),Array.toList_eraseIdx];rw[hsz] at this ⊢
 haveI e:(l++[d]).eraseIdx (l.length + (0 + 1) - 1)=l:=by
  rw[show l.length + (0 + 1) - 1=l.length by rfl,List.eraseIdx_append_of_length_le (le_refl _)];simp
 rw[e] at this;exact this
theorem CALL.pop0{a:Addr}{l:List V}{d:V}{mem'}(hm:(a,Cell.list (d::l)) ∈ B.mem)(hu:UpM a (.list l) B.mem mem')(h:P d {B with mem:=mem'})(hs:l.length + 1 ≤ sizeLine):CALL X (.builtin "list.pop") [.ref a,.int 0] B P:=fun Z s vs r hvs=>by
 obtain⟨v,u,rfl,h0,t,rfl⟩:=vs2 hvs;cases h0;obtain⟨its,⟨m,hp⟩,hr⟩:=r.mem _ hm
 haveI hsz:=hr.length'
 simp only[length_cons] at hsz;obtain⟨y,hy,hyr⟩:=hr.get (i:=0) (d:=d) (by simp)
 haveI hy':its[0]?=some y:=by simpa using hy
 refine call_meets F.slot_list_pop ⟨_,hp,rfl⟩ F.entry_list_pop (F.args_list_pop_2 _ _) (PySem.MeetsSeq.list_pop_at a its m 0 t 0 y (by decide) (by unfold seqIndex?;simp[hsz]) hy' (by exact(le_trans (le_of_eq hsz) hs))) ⟨hp,?_⟩;obtain⟨hp',hs'⟩:=PlainList.upd ⟨m,hp⟩ fun xs=>xs.eraseIdxIfInBounds 0;refine Z7 (r.setMem hu hs' ⟨_,hp',?_⟩) hyr h
 haveI:=hr.eraseIdx 0
 rw[Array.eraseIdxIfInBounds,dif_pos (by rw[hsz];exact succ_pos _),Array.toList_eraseIdx]
 simpa using this
theorem TRU.cell{P:Bool->St->Prop}{a:Addr}{l:List V}(hm:(a,Cell.list l) ∈ B.mem)(h:P (!l.isEmpty) B)(hs:l.length ≤ sizeLine):TRU X (.ref a) B P:=fun Z s v1 r e=>by
 cases e;obtain⟨its,⟨m,hp⟩,hr⟩:=r.mem _ hm
 haveI hsz:=hr.length'
 haveI sl:sizeLine < 2 ^ 60:=by decide
 refine wpAny_truthy_list ⟨_,hp,rfl,_,rfl⟩ (by exact(Int.lt_of_le_of_lt (Int.le_trans (ofNat_le.mpr (le_of_eq hsz)) (ofNat_le.mpr hs)) (by decide))) (here (b:=!l.isEmpty) (Ext.refl r).toks ?_ h);show(!l.isEmpty)=(!its.isEmpty)
 haveI:its.isEmpty=l.isEmpty:=by rw[Bool.eq_iff_iff];simp[<- Array.size_eq_zero_iff,<- List.length_eq_zero_iff,hsz]
 rw[this]
theorem AS.mono{t d}{Q Q':St->Prop}(h:AS X t d B Q)(k:∀ B',Q B'->Q' B'):AS X t d B Q':=AS.post h k
theorem TS.mono{ifs}{Q Q':Bool->St->Prop}(h:TS X ifs B Q)(k:∀ b B',Q b B'->Q' b B'):TS X ifs B Q':=J.mono h k
theorem Za{α:Type}{xs:List α}{i:Nat}{x:α}(h:xs[i]?=some x):xs.take (i + 1)=xs.take i++[x]:=by
 rw[List.take_add_one,h];rfl
noncomputable abbrev pBk(v:V)(L:St)(M:List (Addr × Cell))(d:V)(B:St):Prop:=d=v /\ Back L M B
noncomputable abbrev pEv(X:Cx)(e:PySem.Expr)(P:V->St->Prop)(B:St):Prop:=EV X e B P
noncomputable abbrev pTs(X:Cx)(ifs:List PySem.Expr)(P:Bool->St->Prop)(B:St):Prop:=TS X ifs B P
noncomputable abbrev pFi(X:Cx)(b:Bool)(e:PySem.Expr)(P:V->St->Prop)(L:St)(M:List (Addr × Cell))(ok:Bool)(B:St):Prop:=ok=b /\ if b then EV X e B P else Back L M B
noncomputable abbrev pKx(X:Cx)(k:V)(e:PySem.Expr)(P:V->St->Prop)(d:V)(B:St):Prop:=d=k /\ EV X e B P
inductive LCF(X:Cx)(α:Type)(elt target:PySem.Expr)(ifs:List PySem.Expr)(scope:Scope)(R:List V->St->Prop)(d:V)(B1:St):Prop
 | mk (locc celc:List (Str × Option V)) (capc:List (Str × V)) (xs:List α) (enc F:α->V) (p:α->Bool) (hit:ITERC X target B1 d (xs.map enc)) (hL:ScL B1.cel B1.cap scope.names locc celc capc) (hsz:xs.length ≤ sizeLine)
  (turn:∀ C D c x,x ∈ xs->AS (X.comp scope C) target (enc x) ⟨locc,celc,capc,B1.mem++[(D,c)]⟩ (pTs (X.comp scope C) ifs (pFi (X.comp scope C) (p x) elt (pBk (F x) ⟨locc,celc,capc,[]⟩ (B1.mem++[(D,c)])) ⟨locc,celc,capc,[]⟩ (B1.mem++[(D,c)]))))
  (fin:R ((xs.filter p).map F) B1)
inductive LCM(X:Cx)(α:Type)(elt target:PySem.Expr)(scope:Scope)(R:List V->St->Prop)(d:V)(B1:St):Prop
 | mk (locc celc:List (Str × Option V)) (capc:List (Str × V)) (xs:List α) (enc F:α->V) (hit:ITERC X target B1 d (xs.map enc)) (hL:ScL B1.cel B1.cap scope.names locc celc capc) (hsz:xs.length ≤ sizeLine)
  (turn:∀ C D c x,x ∈ xs->AS (X.comp scope C) target (enc x) ⟨locc,celc,capc,B1.mem++[(D,c)]⟩ (pEv (X.comp scope C) elt (pBk (F x) ⟨locc,celc,capc,[]⟩ (B1.mem++[(D,c)]))))
  (fin:R (xs.map F) B1)
theorem LCF.next{α:Type}{xs:List α}{p:α->Bool}{β:Type}{F:α->β}{i:Nat}{x:α}(hx:xs[i]?=some x):((xs.take (i + 1)).filter p).map F=((xs.take i).filter p).map F++if p x then [F x] else []:=by
 rw[Za hx,List.filter_append,map_append,filter_cons];split <;> rfl
theorem LCF.len{α:Type}{xs:List α}{p:α->Bool}{β:Type}{F:α->β}{i n:Nat}(h:xs.length ≤ n):(((xs.take i).filter p).map F).length ≤ n:=by
 rw[length_map];exact le_trans (length_filter_le ..) (le_trans (List.length_take_le' ..) h)
theorem LCF.step{α:Type}{elt target iter:PySem.Expr}{ifs:List PySem.Expr}{scope:Scope}{pos:Pos}{locc celc:List (Str × Option V)}{capc:List (Str × V)}{xs:List α}{enc F:α->V}{p:α->Bool}{m:List (Addr × Cell)}{C D:Addr}{i:Nat}{di:V}(hsz:xs.length ≤ sizeLine)
  (turn:∀ c x,x ∈ xs->AS (X.comp scope C) target (enc x) ⟨locc,celc,capc,m++[(D,c)]⟩ fun B2=>TS (X.comp scope C) ifs B2 fun ok B3=>ok=p x /\ if p x then EV (X.comp scope C) elt B3 fun d B4=>d=F x /\ Back ⟨locc,celc,capc,[]⟩ (m++[(D,c)]) B4 else Back ⟨locc,celc,capc,[]⟩ (m++[(D,c)]) B3)
  (hi:(xs.map enc)[i]?=some di):H3 (X.comp scope C) (.ListComp elt [⟨target,iter,ifs,0⟩] scope pos) 0 target ifs D ⟨locc,celc,capc,[]⟩ m (.list (((xs.take i).filter p).map F)) m (.list (((xs.take (i + 1)).filter p).map F)) di:=by
 rw[getElem?_map,Option.map_eq_some_iff] at hi;obtain⟨x,hx,rfl⟩:=hi;refine AS.mono (turn _ x (mem_of_getElem? hx)) fun B2 h2=>TS.mono h2 fun ok B3 h3=>?_;obtain⟨rfl,h4⟩:=h3;rw[LCF.next hx];split at h4
 ·rename_i hp;rw[if_pos hp,if_pos hp];refine IN.one rfl ?_ h4;exact LCF.len hsz
 ·rename_i hp;rw[if_neg hp,if_neg hp,append_nil];exact h4
theorem LCF.toG{α:Type}{elt target iter:PySem.Expr}{ifs:List PySem.Expr}{scope:Scope}{pos:Pos}{R:List V->St->Prop}{d:V}{B1:St}(h:LCF X α elt target ifs scope R d B1):
  LCG X target scope (.ListComp elt [⟨target,iter,ifs,0⟩] scope pos) ifs (.list []) (fun m c B2=>m=B2.mem /\ ∃ l,c=.list l /\ R l B2) d B1:=by
 induction h with
 | mk locc celc capc xs enc F p hit hL hsz turn fin=>
  refine .mk _ locc celc capc hit hL (fun _=>B1.mem) (fun i=>.list (((xs.take i).filter p).map F)) rfl rfl (fun C D i di hi=>LCF.step hsz (turn C D) hi) ⟨rfl,_,rfl,?_⟩;rw[length_map,take_length];exact fin
theorem LCM.toF{α:Type}{elt target:PySem.Expr}{scope:Scope}{R:List V->St->Prop}{d:V}{B1:St}(h:LCM X α elt target scope R d B1):LCF X α elt target [] scope R d B1:=by
 induction h with
 | mk locc celc capc xs enc F hit hL hsz turn fin=>
  refine .mk locc celc capc xs enc F (fun _=>true) hit hL hsz (fun C D c x hx=>AS.mono (turn C D c x hx) fun B2 h2=>TS.nil ⟨rfl,h2⟩) ?_;rw[filter_eq_self.mpr (fun _ _=>rfl)];exact fin
theorem LCG.mono{target:PySem.Expr}{scope:Scope}{e:PySem.Expr}{ifs:List PySem.Expr}{c0:Cell}{R R':List (Addr × Cell)->Cell->St->Prop}{d:V}{B1:St}(h:LCG X target scope e ifs c0 R d B1)(k:∀ m c,R m c B1->R' m c B1):LCG X target scope e ifs c0 R' d B1:=by
 induction h with
 | mk its locc celc capc hit hL ms cs h0 h1 turn fin=>exact .mk its locc celc capc hit hL ms cs h0 h1 turn (k _ _ fin)
theorem LCE.list{m:List (Addr × Cell)}{c:Cell}{B1:St}(h:m=B1.mem /\ ∃ l,c=.list l /\ P (.list l) B1):LCE P m c B1:=by
 obtain⟨rfl,l,rfl,h⟩:=h;exact⟨rfl,h⟩
noncomputable abbrev pLs(P:V->St->Prop)(l:List V)(B:St):Prop:=P (.list l) B
theorem EV.lcf{α:Type}{elt target iter:PySem.Expr}{ifs:List PySem.Expr}{scope:Scope}{pos:Pos}
  (h:EV X iter B (LCF X α elt target ifs scope (pLs P)))
  (hok:Zc scope.names=true) (hfk:Y3 scope.names (B.cel.map (·.1)) (B.cap.map (·.1))=true) (hk:scope.kind=.function) (hs:∀ x,foldedSetIterable iter X.env x=pure x):
  EV X (.ListComp elt [⟨target,iter,ifs,0⟩] scope pos) B P:=
 EV.lcg (J.mono h fun _ _ h=>h.toG.mono fun _ _ h=>LCE.list h) (fun _ h=>nomatch h) hok hfk hk hs
theorem EV.lcm{α:Type}{elt target iter:PySem.Expr}{scope:Scope}{pos:Pos}
  (h:EV X iter B (LCM X α elt target scope (pLs P)))
  (hok:Zc scope.names=true) (hfk:Y3 scope.names (B.cel.map (·.1)) (B.cap.map (·.1))=true) (hk:scope.kind=.function) (hs:∀ x,foldedSetIterable iter X.env x=pure x):
  EV X (.ListComp elt [⟨target,iter,[],0⟩] scope pos) B P:=
 EV.lcf (J.mono h fun _ _ h=>h.toF) hok hfk hk hs
mutual
inductive Fz(a:Addr)(w:V):V->V->Prop
 | at:Fz a w (.ref a) w
 | same {d}:Fz a w d d
 | tup {l l'}:FzL a w l l'->Fz a w (.tup l) (.tup l')
 | list {l l'}:FzL a w l l'->Fz a w (.list l) (.list l')
inductive FzL(a:Addr)(w:V):List V->List V->Prop
 | nil:FzL a w [] []
 | cons {d d' l l'}:Fz a w d d'->FzL a w l l'->FzL a w (d::l) (d'::l')
end
theorem VRel.fz{a:Addr}{x:V}(hx:VRel X.prog X.w Z x (.ref a)){d d':V}{v:Value}(q:Fz a x d d')(h:VRel X.prog X.w Z d v):VRel X.prog X.w Z d' v:=
 Fz.rec (motive_1:=fun d d' _=>∀ v,VRel X.prog X.w Z d v->VRel X.prog X.w Z d' v) (motive_2:=fun l l' _=>∀ vs,VsRel X.prog X.w Z l vs->VsRel X.prog X.w Z l' vs)
  (fun v h=>by cases (show v=.ref a from h);exact hx) (fun v h=>h) (fun _ ih v h=>by obtain⟨b,its,n,e,z,r⟩:=h;exact⟨b,its,n,e,z,ih _ r⟩) (fun _ ih v h=>by obtain⟨b,its,n,e,z,r⟩:=h;exact⟨b,its,n,e,z,ih _ r⟩)
  (fun _ h=>h) (fun _ _ i1 i2 vs h=>by obtain⟨v,r,e,h,t⟩:=h;exact⟨v,r,e,i1 _ h,i2 _ t⟩) q v h
theorem VsRel.fz{a:Addr}{x:V}(hx:VRel X.prog X.w Z x (.ref a)){l l':List V}{vs:List Value}(q:FzL a x l l')(h:VsRel X.prog X.w Z l vs):VsRel X.prog X.w Z l' vs:=
 FzL.rec (motive_1:=fun d d' _=>∀ v,VRel X.prog X.w Z d v->VRel X.prog X.w Z d' v) (motive_2:=fun l l' _=>∀ vs,VsRel X.prog X.w Z l vs->VsRel X.prog X.w Z l' vs)
  (fun v h=>by cases (show v=.ref a from h);exact hx) (fun v h=>h) (fun _ ih v h=>by obtain⟨b,its,n,e,z,r⟩:=h;exact⟨b,its,n,e,z,ih _ r⟩) (fun _ ih v h=>by obtain⟨b,its,n,e,z,r⟩:=h;exact⟨b,its,n,e,z,ih _ r⟩)
  (fun _ h=>h) (fun _ _ i1 i2 vs h=>by obtain⟨v,r,e,h,t⟩:=h;exact⟨v,r,e,i1 _ h,i2 _ t⟩) q vs h
theorem FzL.refl{a:Addr}{w:V}:∀ l,FzL a w l l
 | []=>.nil
 | _::l=>.cons .same (FzL.refl l)
inductive FzE(a:Addr)(w:V):List (Str × Option V)->List (Str × Option V)->Prop
 | nil:FzE a w [] []
 | same {x l l'}:FzE a w l l'->FzE a w (x::l) (x::l')
 | cons {x d d' l l'}:Fz a w d d'->FzE a w l l'->FzE a w ((x,some d)::l) ((x,some d')::l')
 | drop {x u l l'}:FzE a w l l'->FzE a w ((x,u)::l) ((x,none)::l')
inductive FzM(a:Addr)(w:V):List (Addr × Cell)->List (Addr × Cell)->Prop
 | rest {l}:FzM a w l l
 | same {x l l'}:FzM a w l l'->FzM a w (x::l) (x::l')
 | list {b d d' l l'}:FzL a w d d'->FzM a w l l'->FzM a w ((b,.list d)::l) ((b,.list d')::l')
theorem FzE.keys{a w l l'}(h:FzE a w l l'):l'.map (·.1)=l.map (·.1):=by
 induction h with
 | nil=>rfl
 | same _ ih=>rw[map_cons,map_cons,ih]
 | cons _ _ ih=>rw[map_cons,map_cons,ih]
 | drop _ ih=>rw[map_cons,map_cons,ih]
theorem FzM.keys{a w l l'}(h:FzM a w l l'):Mine.keys l'=Mine.keys l:=by
 unfold Mine.keys
 induction h with
 | rest=>rfl
 | same _ ih=>rw[map_cons,map_cons,ih]
 | list _ _ ih=>rw[map_cons,map_cons,ih]
theorem FzE.mem{a w l l'}(q:FzE a w l l'):∀ y ov,(y,ov) ∈ l'->∃ u,(y,u) ∈ l /\ (ov=none \/ ∃ d d',u=some d /\ ov=some d' /\ Fz a w d d'):=by
 induction q with
 | nil=>intro y ov h;exact absurd h not_mem_nil
 | same _ ih=>
  intro y ov h;rcases mem_cons.mp h with h | h
  ·subst h;refine⟨ov,.head _,?_⟩;cases ov with
   | none=>exact .inl rfl
   | some d=>exact .inr ⟨d,d,rfl,rfl,.same⟩
  ·obtain⟨u,hu,r⟩:=ih y ov h;exact⟨u,.tail _ hu,r⟩
 | cons f _ ih=>
  intro y ov h;rcases mem_cons.mp h with h | h
  ·cases h;exact⟨_,.head _,.inr ⟨_,_,rfl,rfl,f⟩⟩
  ·obtain⟨u,hu,r⟩:=ih y ov h;exact⟨u,.tail _ hu,r⟩
 | drop _ ih=>
  intro y ov h;rcases mem_cons.mp h with h | h
  ·cases h;exact⟨_,.head _,.inl rfl⟩
  ·obtain⟨u,hu,r⟩:=ih y ov h;exact⟨u,.tail _ hu,r⟩
theorem FzM.mem{a w l l'}(q:FzM a w l l'):∀ p,p ∈ l'->p ∈ l \/ ∃ b d d',(b,Cell.list d) ∈ l /\ p=(b,Cell.list d') /\ FzL a w d d':=by
 induction q with
 | rest=>exact fun p h=>.inl h
 | same _ ih=>
  intro p h;rcases mem_cons.mp h with h | h
  ·exact .inl (h ▸ .head _)
  ·rcases ih p h with h | ⟨b,d,d',h1,h2⟩
   ·exact .inl (.tail _ h)
   ·exact .inr ⟨b,d,d',.tail _ h1,h2⟩
 | list f _ ih=>
  intro p h;rcases mem_cons.mp h with h | h
  ·exact .inr ⟨_,_,_,.head _,h,f⟩
  ·rcases ih p h with h | ⟨b,d,d',h1,h2⟩
   ·exact .inl (.tail _ h)
   ·exact .inr ⟨b,d,d',.tail _ h1,h2⟩
inductive Cut(a:Addr)(c:Cell):List (Addr × Cell)->List (Addr × Cell)->Prop
 | here {l}:Cut a c ((a,c)::l) l
 | tail {x l l'}:Cut a c l l'->Cut a c (x::l) (x::l')
theorem Cut.split{a c l l'}(h:Cut a c l l'):∃ m1 m2,l=m1++(a,c)::m2 /\ l'=m1++m2:=by
 induction h with
 | here=>exact⟨[],_,rfl,rfl⟩
 | @tail x _ _ _ ih=>obtain⟨m1,m2,e1,e2⟩:=ih;exact⟨x::m1,m2,by rw[e1];rfl,by rw[e2];rfl⟩
structure Frz(a:Addr)(c:Cell)(B B':St):Prop where
 ns:c.isV=true
 mem:∃ m,Cut a c B.mem m /\ FzM a (X8 c) m B'.mem
 loc:FzE a (X8 c) B.loc B'.loc
 cel:FzE a (X8 c) B.cel B'.cel
 cap:B'.cap=B.cap
theorem Rel.fz(r:Rel X B Z s){a:Addr}{w:V}(hw:VRel X.prog X.w Z w (.ref a)){B':St}(hm:FzM a w B.mem B'.mem)(hl:FzE a w B.loc B'.loc)(hc:FzE a w B.cel B'.cel)(hp:B'.cap=B.cap):Rel X B' Z s:=by
 haveI kl:=hl.keys
 haveI kc:=hc.keys
 haveI km:=hm.keys
 haveI ft:Z0 X B'=Z0 X B:=by unfold Z0;rw[km]
 refine⟨⟨by rw[kl];exact r.fr.lnd,fun p hp'=>?_,fun p hp'=>?_,by rw[kc];exact r.fr.cnd,by rw[kc];exact r.fr.cinj,by rw[hp];exact r.fr.pk,by rw[kl,kc,hp];exact r.fr.dbg,r.fr.kind⟩,r.zin,r.st,r.ztab,r.old,r.os,r.gens,?_,fun x ov hx=>?_,by rw[hp];exact r.cap,r.ownc,fun p hp'=>?_,by rw[ft];exact r.nd,by rw[ft];exact r.zfoot,by rw[ft];exact r.bfoot,by rw[ft];exact r.ex,r.g3,by rw[km];exact r.low⟩
 ·obtain⟨x,ov⟩:=p;obtain⟨u,hu,_⟩:=hl.mem x ov hp';exact r.fr.lk (x,u) hu
 ·obtain⟨x,ov⟩:=p;obtain⟨u,hu,_⟩:=hc.mem x ov hp';exact r.fr.ck (x,u) hu
 ·obtain⟨m,hn,hv⟩:=r.ns;refine⟨m,hn,fun x ov hx=>?_⟩;obtain⟨u,hu,q⟩:=hl.mem x ov hx
  haveI:=hv x u hu
  rcases q with rfl | ⟨d,d',rfl,rfl,f⟩
  ·trivial
  ·obtain⟨v,e,hr⟩:=this;exact⟨v,e,VRel.fz hw f hr⟩
 ·obtain⟨u,hu,q⟩:=hc.mem x ov hx;obtain⟨c,uo,h1,h2,h3,h4⟩:=r.cells x u hu;refine⟨c,uo,h1,h2,h3,?_⟩;rcases q with rfl | ⟨d,d',rfl,rfl,f⟩
  ·trivial
  ·obtain⟨v,e,hr⟩:=h4;exact⟨v,e,VRel.fz hw f hr⟩
 ·rcases hm.mem p hp' with h | ⟨b,d,d',h1,rfl,f⟩
  ·exact r.mem _ h
  ·obtain⟨its,hp1,hr⟩:=r.mem _ h1;exact⟨its,hp1,VsRel.fz hw f hr⟩
theorem Ext.frz(x:Ext X B Z s B' Z' s'){a:Addr}{c:Cell}{B2:St}(f:Frz a c B' B2):∃ Z2,Ext X B Z s B2 Z2 s' /\ Z'.le Z2 /\ VRel X.prog X.w Z2 (X8 c) (.ref a):=by
 obtain⟨hns,⟨m,hcut,hm⟩,hl,hc,hp⟩:=f;obtain⟨m1,m2,e1,rfl⟩:=hcut.split
 haveI hin:(a,c) ∈ B'.mem:=by rw[e1];exact mem_append_right _ mem_cons_self
 obtain⟨o,ho⟩:=x.rel.ex a (x.rel.nonempty hin);obtain⟨y,hle⟩:=x.freeze e1 ho
 haveI hcell:CellRel X.prog X.w (Zput Z' a o) s'.heap a c:=(x.rel.mem _ hin).mono hle fun o h=>h
 haveI hlow:3 < a:=x.rel.low a (by rw[e1];exact Qg)
 haveI hv:=Ub (Zput.self) ho hlow hcell hns
 refine⟨_,?_,hle,hv⟩
 haveI r2:=y.rel.fz hv hm hl hc hp
 haveI km:=hm.keys
 haveI ft:Z0 X B2=Z0 X {B' with mem:=m1++m2}:=by unfold Z0;rw[km]
 exact⟨r2,y.le,y.keep,by rw[km];exact y.new,y.znew⟩
theorem J.frz{α β:Type}{R:ZM->β->α->Prop}{t:Sem α}{Q:β->St->Prop}{a c B2}(f:Frz a c B B2)(h:J X R t B2 Q):J X R t B Q:=fun Z s r=>by
 obtain⟨Z2,x,_,_⟩:=(Ext.refl r).frz f;exact h.after x
theorem AS.frz{t d}{Q:St->Prop}{a c B2 d'}(f:Frz a c B B2)(hd:Fz a (X8 c) d d')(h:AS X t d' B2 Q):AS X t d B Q:=fun Z s v r hv=>by
 obtain⟨Z2,x,hle,hw⟩:=(Ext.refl r).frz f;exact wpAny_mono (h Z2 s v x.rel (VRel.fz hw hd (hv.mono hle))) (fun _ _ q=>q.lift x) fun _ _ h=>h
inductive FRZ(P:V->St->Prop)(d:V)(B1:St):Prop
 | mk (a:Addr) (c:Cell) (B2:St) (d':V) (f:Frz a c B1 B2) (hf:Fz a (X8 c) d d') (h:P d' B2)
theorem EV.frz{e}(h:EV X e B (FRZ P)):EV X e B P:=fun Z s r=>
 wpAny_mono (h Z s r) (fun v s' h=>by
  obtain⟨Z1,B1,d,x,hr,a,c,B2,d',f,hf,hP⟩:=h;obtain⟨Z2,y,hle,hw⟩:=x.frz f
  exact Z7 y (VRel.fz hw hf (hr.mono hle)) hP) fun _ _ h=>h
inductive FzF(a:Addr)(w:V):Fl->Fl->Prop
 | same {f}:FzF a w f f
 | ret {d d'}:Fz a w d d'->FzF a w (.ret d) (.ret d')
inductive FRX(Q:Fl->St->Prop)(fl:Fl)(B1:St):Prop
 | mk (a:Addr) (c:Cell) (B2:St) (fl':Fl) (f:Frz a c B1 B2) (hf:FzF a (X8 c) fl fl') (h:Q fl' B2)
theorem EX.frz{b}{Q:Fl->St->Prop}(h:EX X b B (FRX Q)):EX X b B Q:=fun Z s r=>
 wpAny_mono (h Z s r) (fun v s' h=>by
  obtain⟨Z1,B1,fl,x,hr,a,c,B2,fl',f,hf,hP⟩:=h;obtain⟨Z2,y,hle,hw⟩:=x.frz f;refine⟨_,_,fl',y,?_,hP⟩;cases hf with
  | same=>
   cases fl with
   | ret d=>obtain⟨u,e,hu⟩:=hr;exact⟨u,e,hu.mono hle⟩
   | _=>exact hr
  | ret q=>obtain⟨u,e,hu⟩:=hr;exact⟨u,e,VRel.fz hw q (hu.mono hle)⟩) fun _ _ h=>h
theorem Ext.addZ(r:Rel X B Z s)(x:Ext X B Z s B Z s'){ao:Addr}{o:Obj}(ho:s'.heap.get? ao=some o)(hn:s.heap.get? ao=none):Ext X B Z s B (Zput Z ao o) s' /\ Z.le (Zput Z ao o):=by
 have zB:Z ao=none:=by
  refine Zb fun o' e=>?_;rw[r.zin _ _ e] at hn;exact snE hn
 have hB:ao ∉ Z0 X B:=fun h=>by obtain⟨o',e⟩:=r.ex ao h;rw[e] at hn;exact snE hn
 have bB:X.base.get? ao=none:=by
  refine Zb fun o' e=>?_;obtain⟨o2,h2⟩:=r.old.there _ _ e;rw[h2] at hn;exact snE hn
 have le:Z.le (Zput Z ao o):=Zput.le fun o' e=>by rw[zB] at e;exact nsE e
 have q:=x.rel;have zout:∀ b,b ≠ ao->Zput Z ao o b=Z b:=fun b hb=>by exact if_neg (by assumption)
 refine⟨⟨⟨q.fr,fun b ob e=>?_,fun b ob e hb=>le _ _ (q.st b ob e hb),fun b hb=>?_,q.old,q.os,q.gens,?_,fun y ov hy=>?_,fun y d hy=>?_,q.ownc,fun p hp=>(q.mem p hp).mono le fun _ h=>h,q.nd,fun b hb=>?_,q.bfoot,q.ex,?_,q.low⟩,le,x.keep,x.new,fun b ob e=>?_⟩,le⟩
 ·by_cases hb:b=ao
  ·subst hb;rw[Zput.self] at e;cases e;exact ho
  ·rw[zout b hb] at e;exact q.zin _ _ e
 ·by_cases hb':b=ao
  ·subst hb';obtain⟨ob,vs,e,_⟩:=hb;rw[bB] at e;exact nsE e
  ·rw[zout b hb'];exact q.ztab b hb
 ·obtain⟨m,hm,hv⟩:=q.ns;exact⟨m,hm,fun y ov hy=>(hv y ov hy).mono le⟩
 ·obtain⟨c,uo,h1,h2,h3,h4⟩:=q.cells y ov hy;exact⟨c,uo,h1,h2,h3,h4.mono le⟩
 ·obtain⟨c,ob,v,h1,h2,h3,h4⟩:=q.cap y d hy;exact⟨c,ob,v,h1,le _ _ h2,h3,h4.mono le⟩
 ·rw[zout b fun h=>hB (h ▸ hb)];exact q.zfoot b hb
 ·obtain⟨ob,e⟩:=q.g3;exact⟨ob,le _ _ e⟩
 ·by_cases hb:b=ao
  ·subst hb;exact .inr (.inr hn)
  ·rw[zout b hb] at e;exact .inl e
theorem CMP.inS{x:Str}{c:Nat}(h:P (.bool (decide (c ∈ x.cps.toList))) B):CMP X .In (.str ⟨#[c]⟩) (.str x) B P:=fun Z s v u r h1 h2=>by
 obtain⟨t,rfl⟩:=h1;obtain⟨t',rfl⟩:=h2;refine PyProof.Rows.in_str ?_;rw[PySem.StrLaws.found_one];exact Z7 (Ext.refl r) Zg h
theorem VsRel.signs{prog w Z}:∀ (l:List Nat) (vs:List Value),vs.length=l.length->(∀ (j c:Nat) (v:Value),l[j]?=some c->vs[j]?=some v->∃ u:Tok,v=Value.str ⟨#[c]⟩ u)->VsRel prog w Z (l.map fun c=>V.str ⟨#[c]⟩) vs:=fun l vs hl h=>
 VsRel.of_get (by simp[hl]) fun i d v h1 h2=>by
  rw[getElem?_map,Option.map_eq_some_iff] at h1;obtain⟨c,hc,rfl⟩:=h1;obtain⟨u,rfl⟩:=h i c v hc h2;exact Xi
theorem CALL.listS{x:Str}(hA:X.A.handled=none)(hs:x.length ≤ sizeLine)(h:P (.list (Tr x)) B):CALL X (.type "list") [.str x] B P:=fun Z s vs r hvs=>by
 obtain⟨v,rfl,t,rfl⟩:=vs1 hvs;refine call_list_str hA x t (fun h' tk acc' c' hk ho hacc=>?_) hs;obtain⟨y,hle⟩:=Ext.addZ r (Ext.keepAll (tk:=tk) r hk) (ao:=s.heap.objs.size) ho (get?_none_of_le (le_refl _));refine Z7 y (Xz (l:=Tr x) Zput.self ?_) h;refine VsRel.signs _ _ (by simp[hacc.1]) fun j c v h1 h2=>?_;obtain⟨c',u,hc,rfl⟩:=hacc.2 j v (by exact(getElem?_toList ..).symm.trans (h2));have:x.cps[j]?=some c:=by exact(getElem?_toList ..).symm.trans (h1)
 rw[this] at hc;cases hc;exact⟨u,rfl⟩
theorem CALL.sorted{l:List Int}(hs:l.length < 64)(h:∀ l':List Int,l'.Perm l->l'.Pairwise (· ≤ ·)->P (.list (l'.map V.int)) B):CALL X (.builtin "sorted") [.list (l.map V.int)] B P:=fun Z s vs r hvs=>by
 obtain⟨v,rfl,a,its,n,rfl,z,hr⟩:=vs1 hvs;obtain⟨m,hn,hm⟩:=r.ns;obtain⟨xs,hx,rfl⟩:=VsRel.ints hr
 have ia:∀ xs:List (Int × Tok),IntsAre (xs.map fun p=>Value.int p.1 p.2) (xs.map (·.1)):=fun xs=>by
  induction xs with
  | nil=>exact .nil
  | cons q r ih=>exact .cons _ _ ih
 have ii:∀ (vs:List Value) (l:List Int),IntsAre vs l->VsRel X.prog X.w Z (l.map V.int) vs:=fun vs l hv=>by
  induction hv with
  | nil=>rfl
  | cons n t _ ih=>exact⟨_,_,rfl,Zu,ih⟩
 refine sorted_N (r.frame hn) r.news (vs:=its.toList) (by exact(r.plist z).isList) (hx ▸ ia xs) (by rw[hx];simpa using hs) fun h' vs' ns' e F N hI hp hw=>?_;have ex:Ext X B Z s B Z {s with heap:=h',toks:=s.toks}:=Ext.ofFr r hm F fun p hp=>N p (.tail _ hp);obtain⟨y,hle⟩:=Ext.addZ r ex (N _ (.head _)).1 (get?_none_of_le (le_succ _));exact Z7 y (Xz Zput.self (Tk (VsRel.mono hle (ii _ _ hI)))) (h ns' hp hw)
section
variable{K:Type}[DecidableEq K]{β γ:Type}
noncomputable def vat(ks:List K)(l:List β)(k:K):Option β:=((ks.zip l).find? fun p=>p.1=k).map (·.2)
noncomputable def Zo(ks:List K)(k:K):List K:=if k ∈ ks then ks else ks++[k]
noncomputable def vput(ks:List K)(l:List β)(k:K)(d:β):List β:=if k ∈ ks then zipWith (fun k' d'=>if k'=k then d else d') ks l else l++[d]
theorem Re{ks:List K}{k:K}:vat ks ([]:List β) k=none:=by cases ks <;> rfl
theorem Zd{a:K}{ks:List K}{b:β}{l:List β}{k:K}:vat (a::ks) (b::l) k=if a=k then some b else vat ks l k:=by
 delta vat;rw[zip_cons_cons,List.find?_cons];split
 ·rename_i h;simp at h;simp[h]
 ·rename_i h;simp at h;simp[h]
theorem VsRel.vat{ks:List K}:∀ {l:List V} {vs:List Value} {k:K} {d:V},VsRel X.prog X.w Z l vs->Mine.vat ks l k=some d->∃ v,Mine.vat ks vs k=some v /\ VRel X.prog X.w Z d v:=by
 induction ks with
 | nil=>intro l vs k d _ h;exact nsE h
 | cons a ks ih=>
  intro l vs k d hr h;cases l with
  | nil=>rw[Re] at h;exact nsE h
  | cons b l=>
   obtain⟨v,r,rfl,hv,hq⟩:=hr;rw[Zd] at h ⊢;split at h
   ·rename_i e;rw[if_pos e];cases h;exact⟨v,rfl,hv⟩
   ·rename_i e;rw[if_neg e];exact ih hq h
theorem vat_valueAt{ks:List K}{us:List Value}{k:K}:valueAt (ks.zip us) k=vat ks us k:=rfl
theorem Xn{ks:List K}{l:List β}{k:K}(h:ks.length=l.length):(vat ks l k).isSome=decide (k ∈ ks):=by
 induction ks generalizing l with
 | nil=>rfl
 | cons a ks ih=>
  cases l with
  | nil=>exact if_pos (by assumption)
  | cons b l=>
   rw[Zd];split
   ·rename_i e;simp[e]
   ·rename_i e;rw[ih (by simpa using h)];simp[Ne.symm e]
theorem Tp{ks:List K}{us:List Value}{k:K}{v:Value}(h:ks.length=us.length):stored (ks.zip us) k v=(Zo ks k).zip (vput ks us k v):=by
 have hany:((ks.zip us).any fun kv=>kv.1=k)=decide (k ∈ ks):=by
  have e:((ks.zip us).any fun kv=>kv.1=k)=((ks.zip us).map (·.1)).any fun k'=>k'=k:=by rw[List.any_map];rfl
  rw[e,Wc h,Bool.eq_iff_iff];simp
 delta stored Zo vput
 rw[hany]
 by_cases hm:k ∈ ks
 ·simp only[hm,decide_true,if_true];clear hany hm
  induction ks generalizing us with
  | nil=>rfl
  | cons a ks ih=>
   cases us with
   | nil=>exact nil_append _
   | cons b us=>
    simp only[zip_cons_cons,map_cons,zipWith_cons_cons];rw[ih (by simpa using h)];congr 1;split <;> rfl
 ·simp only[hm,decide_false,false_eq_true,if_false];rw[List.zip_append h];rfl
theorem W2{ks:List K}{l:List β}{k:K}{d:β}(h:ks.length=l.length):(Zo ks k).length=(vput ks l k d).length:=by
 delta Zo vput;split <;> simp[h]
theorem VsRel.vput{ks:List K}{l:List V}{vs:List Value}{k:K}{d:V}{v:Value}(hr:VsRel X.prog X.w Z l vs)(hd:VRel X.prog X.w Z d v):VsRel X.prog X.w Z (Mine.vput ks l k d) (Mine.vput ks vs k v):=by
 delta Mine.vput
 split
 ·rename_i hmem;clear hmem
  induction ks generalizing l vs with
  | nil=>rfl
  | cons a ks ih=>
   cases l with
   | nil=>cases hr;rfl
   | cons b l=>
    obtain⟨u,r,rfl,hu,hq⟩:=hr;refine⟨_,_,rfl,?_,ih hq⟩;dsimp only;split
    ·exact hd
    ·exact hu
 ·exact hr.append ⟨v,[],rfl,hd,rfl⟩
end
theorem Ke{prog w}{k:Int}{t:Tok}:(PySem.intKind prog w).is k (.int k t)=true:=by
 exact if_pos rfl
theorem Pn{prog w}{k:Str}{t:Tok}:(PySem.strKind prog w).is k (.str k t)=true:=by
 exact if_pos rfl
theorem O3{prog w Z a da d}{b:Bool}(h:Z a=some {cls:=.type (if b then "dict_items" else "dict_values"),data:=.fields #[.ref da]})(hd:VRel prog w Z d (.ref da)):VRel prog w Z (.view b d) (.ref a):=⟨a,da,rfl,h,hd⟩
theorem SUB.sdict{ks:List Str}{l:List V}{k:Str}{d:V}(hd:vat ks l k=some d)(h:P d B):SUB X (.sdict ks l) (.str k) B P:=fun Z s v1 v2 r h1 h2=>by
 obtain⟨a,us,rfl,lo,z,hl,hr⟩:=h1;obtain⟨t,rfl⟩:=h2;obtain⟨v,hv,hvr⟩:=hr.vat hd;have hm:=r.pdict z;refine⟨⟨_,_,hm.typeIs,F.slot_dict_getitem.lookup⟩,?_⟩;exact wpAny_getItem_of (knd:=PySem.strKind X.prog X.w) (k:=k) Pn hm.mapOf hv (Z7 (Ext.refl r).toks hvr h)
theorem SUB.idict{ks:List Int}{l:List V}{k:Int}{d:V}(hd:vat ks l k=some d)(h:P d B):SUB X (.idict ks l) (.int k) B P:=fun Z s v1 v2 r h1 h2=>by
 obtain⟨a,us,rfl,lo,z,hl,hr⟩:=h1;obtain⟨t,rfl⟩:=h2;obtain⟨v,hv,hvr⟩:=hr.vat hd;have hm:=r.pdict z;refine⟨⟨_,_,hm.typeIs,F.slot_dict_getitem.lookup⟩,?_⟩;exact wpAny_getItem_of (knd:=PySem.intKind X.prog X.w) (k:=k) Ke hm.mapOf hv (Z7 (Ext.refl r).toks hvr h)
theorem SUB.sliceS{x:Str}{lo hi:Option Int}(hs:x.length ≤ sizeLine)(h:P (.str (PySem.StrLaws.sliceText x lo hi)) B):SUB X (.str x) (.slc lo hi none) B P:=fun Z s v1 v2 r h1 h2=>by
 obtain⟨t,rfl⟩:=h1;obtain⟨a,lv,uv,sv,rfl,z,p1,p2,p3⟩:=h2;cases p3;obtain⟨l',e1,e1'⟩:∃ l':Option (Int × Tok),lv=partValue l' /\ l'.map (·.1)=lo:=by cases p1 with | none=>exact⟨none,rfl,rfl⟩ | int i t=>exact⟨some (i,t),rfl,rfl⟩
 obtain⟨u',e2,e2'⟩:∃ u':Option (Int × Tok),uv=partValue u' /\ u'.map (·.1)=hi:=by cases p2 with | none=>exact⟨none,rfl,rfl⟩ | int i t=>exact⟨some (i,t),rfl,rfl⟩
 subst e1 e2 e1' e2';refine⟨⟨_,_,typeIs_str _ _ _,F.slot_str_getitem.lookup⟩,?_⟩;refine wpAny_getItem_str_slice (l:=l') (u:=u') (st:=none) ⟨_,r.zin _ _ z,rfl,rfl⟩ rfl ?_
 delta sliceMade
 delta PySem.StrLaws.sliceText at h
 delta slicePicked
 simp only[Option.map_none,Option.getD_none] at h ⊢
 by_cases hc:((1:Int) == 1 && (Builtin.Str.strSliceIndices (l'.map (·.1)) (u'.map (·.1)) 1 x.length).length == x.length)=true
 ·rw[if_pos hc] at h ⊢;exact Z7 (Ext.refl r) Xi h
 ·rw[if_neg hc] at h ⊢;refine⟨?_,Z7 (Ext.refl r).toks Xi h⟩;have h1:=sliceIndices_le (l'.map (·.1)) (u'.map (·.1)) x.length;have h2:=List.length_filterMap_le (x.cps[·]?) (Builtin.Str.strSliceIndices (l'.map (·.1)) (u'.map (·.1)) 1 x.length);show Array.size (List.toArray _) ≤ sizeLine;rw[List.size_toArray];exact(le_trans (le_trans h2 h1) hs)
theorem VsRel.strs{Z:ZM}:∀ {l:List Str} {vs:List Value},VsRel X.prog X.w Z (l.map V.str) vs->StrsAre vs l
 | [],_,h=>by cases h;exact .nil
 | i::l,_,⟨v,r,e,⟨t,ht⟩,q⟩=>by subst e;subst ht;exact .cons _ _ (VsRel.strs q)
theorem CALL.join{x:Str}{ys:List Str}(hok:(ys.map (·.length)).sum + ys.length * x.length ≤ 16777216)(h:P (.str (Txt.join x ys)) B):CALL X (.builtin "str.join") [.str x,.list (ys.map V.str)] B P:=fun Z s vs r hvs=>by
 obtain⟨v,u,rfl,⟨t,rfl⟩,a,its,n,rfl,z,hr⟩:=vs2 hvs;exact join_list (r.plist z).isList (VsRel.strs hr) hok fun t' k=>Z7 (Ext.refl r).toks Xi h
theorem CALL.scount{x y:Str}(h:P (.int (Builtin.Str.occurrences x y 0 x.length (x.length + 1)).length) B):CALL X (.builtin "str.count") [.str x,.str y] B P:=fun Z s vs r hvs=>by
 obtain⟨v,u,rfl,⟨t,rfl⟩,⟨t',rfl⟩⟩:=vs2 hvs;exact call_gives F.slot_str_count (typeIs_str _ _ _) F.entry_str_count (F.args_str_count_2 _ _) (gives_str_count x y t t') (Z7 (Ext.refl r).toks Zu h)
theorem CALL.isiBB{b:Bool}(h:P (.bool true) B):CALL X (.builtin "isinstance") [.bool b,.lit (.type "bool")] B P:=fun Z s vs r hvs=>by
 obtain⟨v,u,rfl,e,e'⟩:=vs2 hvs;cases e;cases e';exact PySem.IsiPair.bool_bool (Z7 (Ext.refl r) Zg h)
theorem CALL.isiIT{b:Int}(h:P (.bool false) B):CALL X (.builtin "isinstance") [.int b,.lit (.type "tuple")] B P:=fun Z s vs r hvs=>by
 obtain⟨v,u,rfl,⟨t,rfl⟩,e'⟩:=vs2 hvs;cases e';exact PySem.IsiPair.int_tuple (Z7 (Ext.refl r).toks Zg h)
theorem CALL.all{l:List Bool}(hA:X.A.handled=none)(h:P (.bool (l.all id)) B):CALL X (.builtin "all") [.list (l.map V.bool)] B P:=fun Z s vs r hvs=>by
 obtain⟨v,rfl,a,its,n,rfl,z,hr⟩:=vs1 hvs;have hlt:=lt_size (r.zin _ _ z);have hsz:=hr.length';refine call_all_walk (wpAny_pyIter_list (r.plist z).isList ?_);have hp:∀ {o},(s.heap.push o).get? a=some {cls:=.type "list",data:=.seq its n}:=fun {o}=>get?_push_of_some _ (r.zin _ _ z);refine⟨_,_,_,_,_,_,fun i=>(l[i]?).getD true,rfl,Walks.list (A:=X.A.in1) hA s.heap.objs.size a (ne_of_lt hlt) its,⟨⟨_,get?_push_size _ rfl,rfl,rfl⟩,_,hp,rfl,n,rfl⟩,?_,fun h' tk hk=>?_⟩
 ·intro i v s' Q E hi hQ;have hi':its.toList[i]?=some v:=by exact(getElem?_toList ..).trans (hi)
  have hlt:i < l.length:=by
   have:=(List.getElem?_eq_some_iff.mp hi').1;simp at this hsz;exact(lt_of_lt_of_le this (le_of_eq hsz))
  have e:(l.map V.bool)[i]?=some (.bool l[i]):=by exact Um (by assumption)
  obtain⟨v',hv',hvr⟩:=hr.get e;rw[hi'] at hv';cases hv';cases hvr;have:(l[i]?).getD true=l[i]:=by simp[hlt]
  dsimp only at hQ;rw[this] at hQ;exact wpAny_truthy_bool hQ
 ·have e:(List.range its.size).all (fun i=>(l[i]?).getD true)=l.all id:=by
   have hl:its.size=l.length:=by simpa using hsz
   rw[hl,Bool.eq_iff_iff,all_eq_true,all_eq_true]
   constructor
   ·intro q x hx;obtain⟨j,hj,rfl⟩:=mem_iff_getElem.mp hx;have:=q j (mem_range.mpr hj)
    simpa [hj] using this
   ·intro q j hj;have hj:=mem_range.mp hj;have:=q _ (getElem_mem hj)
    simpa [hj] using this
  rw[e];exact Z7 (Ext.keepAll r fun b o' e'=>hk b o' (fun h=>by simp at h;subst h;exact absurd (lt_size e') (lt_irrefl _)) (get?_push_of_some _ e')) Zg h
noncomputable def LN(X:Cx)(x:Str)(B:St)(P:V->St->Prop):Prop:=J X (RV X) (loadName X.env x) B P
theorem LN.loc{x d}(hm:(x,some d) ∈ B.loc)(h:P d B):LN X x B P:=fun Z s r=>by
 obtain⟨m,hn,hv⟩:=r.ns;obtain⟨v,hx,hr⟩:=hv _ _ hm;exact wpAny_loadName_local r.fr.kind (r.fr.lk _ hm) hn hx (here (b:=d) (Ext.refl r) hr h)
theorem INP.add{a b}(h:P (.int (a + b)) B):INP X .Add (.int a) (.int b) B P:=fun Z s v1 v2 r ⟨t,e1⟩ ⟨u,e2⟩=>by
 subst e1 e2;exact PyProof.Rows.iadd_int (Z7 (Ext.refl r).toks Zu h)
theorem INP.adds{a b:Str}(h:P (.str (a++b)) B)(hz:a.length + b.length ≤ sizeLine):INP X .Add (.str a) (.str b) B P:=fun Z s v1 v2 r ⟨t,e1⟩ ⟨u,e2⟩=>by
 subst e1 e2;exact PyProof.Rows.iadd_str (fun t' tk=>Z7 (Ext.refl r).toks Xi h) hz
noncomputable abbrev pAu3(X:Cx)(x:Str)(Q:St->Prop)(r:V)(B:St):Prop:=SN X x r B Q
noncomputable abbrev pAu2(X:Cx)(op:Operator)(x:Str)(Q:St->Prop)(o d:V)(B:St):Prop:=INP X op o d B (pAu3 X x Q)
noncomputable abbrev pAu(X:Cx)(value:PySem.Expr)(op:Operator)(x:Str)(Q:St->Prop)(o:V)(B:St):Prop:=EV X value B (pAu2 X op x Q o)
theorem ES.augN{x pos' op value pos}{Q:Fl->St->Prop}(h:LN X x B (pAu X value op x (Q .next))):ES X (.AugAssign (.Name x pos') op value pos) B Q:=fun Z s r=>
 wpAny_AugAssign_Name (J.use h r fun Z1 s1 B1 d1 v1 x1 r1 h1=>J.use h1 x1.rel fun Z2 s2 B2 d2 v2 x2 r2 h2=>
  Ve (h2 Z2 s2 v1 v2 x2.rel (r1.mono x2.le) r2) (fun Z3 s3 B3 d3 v3 x3 r3 h3=>
   Ve (h3 Z3 s3 v3 x3.rel r3) (fun Z4 s4 B4 b _ x4 _ h4=>here (((x1.trans x2).trans x3).trans x4) Zz h4)))
theorem ES.augSub{o i value:PySem.Expr}{tpos pos:Pos}{op:Operator}{Q:Fl->St->Prop}
  (h:EV X o B fun od B1=>EV X i B1 fun id B2=>SUB X od id B2 fun old B3=>EV X value B3 fun d B4=>INP X op old d B4 fun r B5=>SETI X od id r B5 (Q .next))
  (hi:∀ ov iv new,augStore i ov iv new=(do holding [new,ov,iv] (setItem ov iv new);release [new,ov,iv] [];pure .next):=by intros;rfl):ES X (.AugAssign (.Subscript o i tpos) op value pos) B Q:=fun Z s r=>
 wpAny_AugAssign_SubscriptAny (J.use h r fun Z1 s1 B1 d1 v1 x1 r1 h1=>J.use h1 x1.rel fun Z2 s2 B2 d2 v2 x2 r2 h2=>by
  haveI r1':=r1.mono x2.le
  refine wpAny_mono (h2 Z2 s2 v1 v2 x2.rel r1' r2).2 (fun v3 s3 ⟨Z3,B3,d3,x3,r3,h3⟩=>?_) fun _ _ h=>h;refine J.use h3 x3.rel fun Z4 s4 B4 d4 v4 x4 r4 h4=>?_;refine Ve (h4 Z4 s4 v3 v4 x4.rel (r3.mono x4.le) r4) (fun Z5 s5 B5 d5 v5 x5 r5 h5=>?_)
  haveI le:Z2.le Z5:=fun a o e=>x5.le a o (x4.le a o (x3.le a o e))
  refine Ve (h5 Z5 s5 v1 v2 v5 x5.rel (r1'.mono le) (r2.mono le) r5) (fun Z6 s6 B6 b _ x6 _ h6=>?_)
  exact here (((((x1.trans x2).trans x3).trans x4).trans x5).trans x6) Zz h6) hi
noncomputable def Z9{K:Type}[DecidableEq K]{β:Type}:List (K × β)->List K × List β->List K × List β
 | [],a=>a
 | p::l,(ks,vs)=>Z9 l (Zo ks p.1,vput ks vs p.1 p.2)
theorem Yv{K:Type}[DecidableEq K]{β:Type}:∀ (l l':List (K × β)) (a:List K × List β),Z9 (l++l') a=Z9 l' (Z9 l a)
 | [],_,_=>rfl
 | p::l,l',(ks,vs)=>Yv l l' _
theorem U2{K:Type}[DecidableEq K](ks:List K)(k:K):(Zo ks k).length ≤ ks.length + 1:=by unfold Zo;split <;> simp
theorem Ys{K:Type}[DecidableEq K]{β:Type}:∀ (l:List (K × β)) (a:List K × List β),(Z9 l a).1.length ≤ a.1.length + l.length
 | [],a=>le_refl _
 | p::l,(ks,vs)=>le_trans (Ys l (Zo ks p.1,vput ks vs p.1 p.2)) (le_trans (add_le_add_right (U2 ks p.1) _) (le_of_eq (succ_add_eq_add_succ ..)))
theorem IN.puts{kx vx gens scope pos k}{D:Addr}{m ks vs i F}{B₀:St}(hg:gens[k + 1]?=none)(hl:ks.length ≤ sizeLine)
  (h:EV X kx B fun d B1=>d=.str i /\ EV X vx B1 fun d B2=>d=F /\ Back B₀ (m++[(D,Cell.sdict ks vs)]) B2):IN X (.DictComp kx vx gens scope pos) k (.ref D) B (Back B₀ (m++[(D,.sdict (Zo ks i) (vput ks vs i F))])):=fun Z s K R r hK=>by
 unfold Vn
 haveI hg':(clausesOf (PySem.Expr.DictComp kx vx gens scope pos))[k + 1]?=none:=hg
 rw[hg'];refine wpAny_bind (wpAny_bind (J.use h r fun Z1 s1 B1 d v x1 r1 h1=>?_));obtain⟨rfl,h1⟩:=h1;refine wpAny_bind (wpAny_holding (J.use h1 x1.rel fun Z2 s2 B2 d2 v2 x2 r2 h2=>?_));obtain⟨rfl,hb1,hb2,hb3,hb4⟩:=h2;obtain⟨t,rfl⟩:=r1;refine wpAny_bind (wpAny_standAt (wpAny_holding ?_))
 haveI hm:(D,Cell.sdict ks vs) ∈ B2.mem:=by rw[hb4];exact mem_append_right _ mem_cons_self
 obtain⟨us,hdict,hlen,hr⟩:=x2.rel.mem _ hm;refine wpAny_dictSet_pairs (knd:=PySem.strKind X.prog X.w) (k:=i) Pn hdict (fun h' hd' hs'=>?_) (by rw[length_zip];exact(le_trans (min_le_left ..) hl));rw[Tp hlen] at hd'
 haveI hu:UpM D (.sdict (Zo ks i) (vput ks vs i d2)) B2.mem (m++[(D,.sdict (Zo ks i) (vput ks vs i d2))]):=by rw[hb4];exact UpM.last m
 exact hK _ _ _ ((x1.trans x2).trans (x2.rel.setMem hu hs' ⟨_,hd',W2 hlen,VsRel.vput hr r2⟩).toks) ⟨hb1,hb2,hb3,rfl⟩
inductive DCF(X:Cx)(α K:Type)[DecidableEq K](kenc:K->V)(kx vx target:PySem.Expr)(ifs:List PySem.Expr)(scope:Scope)(P:V->St->Prop)(mk:List K->List V->V)(d:V)(B1:St):Prop
 | mk (locc celc:List (Str × Option V)) (capc:List (Str × V)) (xs:List α) (enc:α->V) (F:α->K × V) (p:α->Bool) (hit:ITERC X target B1 d (xs.map enc)) (hL:ScL B1.cel B1.cap scope.names locc celc capc) (hsz:xs.length ≤ sizeLine)
  (turn:∀ C D c x,x ∈ xs->AS (X.comp scope C) target (enc x) ⟨locc,celc,capc,B1.mem++[(D,c)]⟩ (pTs (X.comp scope C) ifs (pFi (X.comp scope C) (p x) kx (pKx (X.comp scope C) (kenc (F x).1) vx (pBk (F x).2 ⟨locc,celc,capc,[]⟩ (B1.mem++[(D,c)]))) ⟨locc,celc,capc,[]⟩ (B1.mem++[(D,c)]))))
  (fin:P (mk (Z9 ((xs.filter p).map F) ([],[])).1 (Z9 ((xs.filter p).map F) ([],[])).2) B1)
theorem DCF.toG{α K:Type}[DecidableEq K]{kenc:K->V}{kx vx target iter:PySem.Expr}{ifs:List PySem.Expr}{scope:Scope}{pos:Pos}{mk:List K->List V->V}{cmk:List K->List V->Cell}{d:V}{B1:St}
  (hput:∀ C D m ks vs B (p:K × V),ks.length ≤ sizeLine->EV (X.comp scope C) kx B (fun d B4=>d=kenc p.1 /\ EV (X.comp scope C) vx B4 fun d B5=>d=p.2 /\ Back m (B1.mem++[(D,cmk ks vs)]) B5)->IN (X.comp scope C) (.DictComp kx vx [⟨target,iter,ifs,0⟩] scope pos) 0 (.ref D) B fun B'=>Back m (B1.mem++[(D,cmk (Zo ks p.1) (vput ks vs p.1 p.2))]) B')
  (hv:∀ ks vs,(cmk ks vs).isV=true /\ X8 (cmk ks vs)=mk ks vs) (h:DCF X α K kenc kx vx target ifs scope P mk d B1):
  LCG X target scope (.DictComp kx vx [⟨target,iter,ifs,0⟩] scope pos) ifs (cmk [] []) (LCE P) d B1:=by
 induction h with
 | mk locc celc capc xs enc F p hit hL hsz turn fin=>
  refine .mk _ locc celc capc hit hL (fun _=>B1.mem) (fun i=>cmk (Z9 (((xs.take i).filter p).map F) ([],[])).1 (Z9 (((xs.take i).filter p).map F) ([],[])).2) rfl rfl (fun C D i di hi=>?_) ?_
  ·rw[getElem?_map,Option.map_eq_some_iff] at hi;obtain⟨x,hx,rfl⟩:=hi;refine AS.mono (turn C D _ x (mem_of_getElem? hx)) fun B2 h2=>TS.mono h2 fun ok B3 h3=>?_;obtain⟨rfl,h4⟩:=h3;rw[LCF.next hx,Yv];split at h4
   ·rename_i hp;rw[if_pos hp,if_pos hp];refine hput C D _ _ _ _ _ ?_ h4
    haveI h1:=Ys (((xs.take i).filter p).map F) ([],[])
    haveI h2:(((xs.take i).filter p).map F).length ≤ i:=by
     rw[length_map];exact le_trans (length_filter_le ..) (List.length_take_le ..)
    haveI h3:=(List.getElem?_eq_some_iff.mp hx).1
    exact le_trans h1 (le_trans (by rw[length_nil,zero_add];exact h2) (le_trans (le_of_lt h3) hsz))
   ·rename_i hp;rw[if_neg hp,if_neg hp];exact h4
  ·rw[length_map,take_length];exact⟨(hv _ _).1,by rw[(hv _ _).2];exact fin⟩
theorem EV.dcs{α:Type}{kx vx target iter:PySem.Expr}{ifs:List PySem.Expr}{scope:Scope}{pos:Pos}
  (h:EV X iter B (DCF X α Str .str kx vx target ifs scope P .sdict))
  (hok:Zc scope.names=true) (hfk:Y3 scope.names (B.cel.map (·.1)) (B.cap.map (·.1))=true) (hk:scope.kind=.function) (hs:∀ x,foldedSetIterable iter X.env x=pure x):
  EV X (.DictComp kx vx [⟨target,iter,ifs,0⟩] scope pos) B P:=
 EV.dcg (c0:=.sdict [] []) (.inl rfl) (J.mono h fun _ _ h=>h.toG (cmk:=.sdict) (fun _ _ _ _ _ _ _ hl h=>IN.puts rfl hl h) fun _ _=>⟨rfl,rfl⟩) (fun _ h=>nomatch h) hok hfk hk hs
end
section
variable{X:Cx}{B B':St}{Z Z':ZM}{s s':Shared}{P:V->St->Prop}{target:PySem.Expr}
noncomputable abbrev nat(i:Nat):V:=.int i
theorem TS.one{c}{Q:Bool->St->Prop}(h:ET X c B Q):TS X [c] B Q:=TS.cons (J.mono h fun b B1 hq=>by cases b;exact hq;exact TS.nil hq)
theorem Ty(n:Nat):Uk 0 n=(List.range n).map nat:=by
 unfold Uk;simp[nat]
theorem Ui{n:Nat}(h:n ≤ 2 ^ 40):Builtin.Range.small 0 n 1=true:=M1 (by decide) (by exact⟨(Int.le_trans (by decide) (natCast_nonneg _)),(Int.le_trans (ofNat_le.mpr h) (by decide))⟩)
theorem ITERC.rngN{n:Nat}(hA:X.A.handled=none)(h:n ≤ 2 ^ 40):ITERC X target B (.rng 0 n) ((List.range n).map nat):=Ty n ▸ ITERC.rng hA (Ui h)
theorem ITER.rngN{n:Nat}(hA:X.A.handled=none)(h:n ≤ 2 ^ 40):ITER X target B (.rng 0 n) ((List.range n).map nat):=Ty n ▸ ITER.rng hA (Ui h)
theorem Yz{i n:Nat}(h:i < n):seqIndex? (i:Int) n=some i:=by
 unfold seqIndex?;rw[if_neg (show ¬ (i:Int) < 0 by exact fun h=>nomatch h)];dsimp only;rw[if_pos (by rw[and_eq_true,decide_eq_true_eq,decide_eq_true_eq];exact⟨natCast_nonneg _,ofNat_lt.mpr h⟩)];rfl
theorem Vs{i n:Nat}(h:i < n):seqIndex? (-1 - (i:Int)) n=some (n - 1 - i):=by
 unfold seqIndex?;rw[if_pos (Int.lt_of_le_of_lt (Int.sub_le_self (-1) (natCast_nonneg i)) (by decide)),Mf h];dsimp only;rw[if_pos (by rw[and_eq_true,decide_eq_true_eq,decide_eq_true_eq];exact⟨natCast_nonneg _,ofNat_lt.mpr (Te h)⟩)];rfl
theorem SUB.li{α:Type}{xs:List α}{enc:α->V}{k:Int}(i:Nat)(dflt:α)(hk:k=i)(hi:i < xs.length)(hs:xs.length ≤ sizeLine)(h:P (enc (xs.getD i dflt)) B):SUB X (.list (xs.map enc)) (.int k) B P:=by
 subst hk;refine SUB.list (Yz (by exact Pg (hi))) (d:=enc (xs.getD i dflt)) (by exact K8 (by assumption)) (Mh hi hs) h
theorem SUB.lneg{α:Type}{xs:List α}{enc:α->V}{k:Int}(i:Nat)(dflt:α)(hk:k= -1 - (i:Int))(hi:i < xs.length)(hs:xs.length ≤ sizeLine)(h:P (enc (xs.getD (xs.length - 1 - i) dflt)) B):SUB X (.list (xs.map enc)) (.int k) B P:=by
 subst hk;refine SUB.list (Vs (by exact Pg (hi))) (d:=enc (xs.getD (xs.length - 1 - i) dflt)) ?_ (Ho hi hs) h;have:=Te hi;simp[this]
theorem SUB.ti{l:List V}{k:Int}(i:Nat){d:V}(hk:k=i)(hd:l[i]?=some d)(hs:l.length ≤ sizeLine)(h:P d B):SUB X (.tup l) (.int k) B P:=by
 subst hk;have hi:=(List.getElem?_eq_some_iff.mp hd).1;exact SUB.tup (Yz hi) hd (Mh hi hs) h
end
section
variable{X:Cx}{B B':St}{Z Z':ZM}{s s':Shared}{P:V->St->Prop}
noncomputable def Cx.at(X:Cx)(A:Around):Cx:={X with A:=A}
theorem Rel.at{A:Around}(r:Rel X B Z s):Rel (X.at A) B Z s:=
 ⟨⟨r.fr.lnd,r.fr.lk,r.fr.ck,r.fr.cnd,r.fr.cinj,r.fr.pk,r.fr.dbg,r.fr.kind⟩,r.zin,r.st,r.ztab,r.old,r.os,r.gens,r.ns,r.cells,r.cap,r.ownc,r.mem,r.nd,r.zfoot,r.bfoot,r.ex,r.g3,r.low⟩
theorem Rel.unat{A:Around}(r:Rel (X.at A) B Z s):Rel X B Z s:=
 ⟨⟨r.fr.lnd,r.fr.lk,r.fr.ck,r.fr.cnd,r.fr.cinj,r.fr.pk,r.fr.dbg,r.fr.kind⟩,r.zin,r.st,r.ztab,r.old,r.os,r.gens,r.ns,r.cells,r.cap,r.ownc,r.mem,r.nd,r.zfoot,r.bfoot,r.ex,r.g3,r.low⟩
theorem Ext.unat{A:Around}(x:Ext (X.at A) B Z s B' Z' s'):Ext X B Z s B' Z' s':=⟨x.rel.unat,x.le,x.keep,x.new,x.znew⟩
theorem Rm.under{A:Around}{k:Nat}{c:Code}(h:Rm A (k + 1))(h1:c.weight ≤ 1)(h2:c.cUnits ≤ 10):Rm (A.under c) k:=
 ⟨h.handled,le_trans (add_le_add_right (add_le_add_left h1 _) k) (le_trans (le_of_eq (succ_add A.depth k)) h.depth),Rm.un h h2⟩
theorem Ext.addMs(r:Rel X B Z s){h':Heap}{tk:Nat}(hk:∀ b o,s.heap.get? b=some o->h'.get? b=some o){new:List (Addr × Cell)}(hnd:(keys new).Nodup)
  (hn:∀ p ∈ new,s.heap.get? p.1=none /\ CellRel X.prog X.w Z h' p.1 p.2 /\ 3 < p.1):Ext X B Z s {B with mem:=B.mem++new} Z {s with heap:=h',toks:=tk}:=by
 have x:=Ext.keepAll (tk:=tk) r hk;have q:=x.rel;have hn1:∀ a ∈ keys new,s.heap.get? a=none:=fun a ha=>by obtain⟨p,hp,rfl⟩:=mem_map.mp ha;exact(hn p hp).1
 have hf:∀ a ∈ keys new,a ∉ Z0 X B:=fun a ha hh=>by obtain⟨o,e⟩:=r.ex a hh;rw[hn1 a ha] at e;exact nsE e
 have km:keys (B.mem++new)=keys B.mem++keys new:=by exact Y2 ..
 have ft:∀ a,a ∈ Z0 X {B with mem:=B.mem++new} ↔ a ∈ Z0 X B \/ a ∈ keys new:=fun a=>by
  unfold Z0;rw[km];simp only[mem_cons,mem_append]
  constructor
  ·rintro(h | h | h | h)
   ·exact .inl (.inl h)
   ·exact .inl (.inr (.inl h))
   ·exact .inl (.inr (.inr h))
   ·exact .inr h
  ·rintro((h | h | h) | h)
   ·exact .inl h
   ·exact .inr (.inl h)
   ·exact .inr (.inr (.inl h))
   ·exact .inr (.inr (.inr h))
 refine⟨⟨⟨q.fr.lnd,q.fr.lk,q.fr.ck,q.fr.cnd,q.fr.cinj,q.fr.pk,q.fr.dbg,q.fr.kind⟩,q.zin,q.st,q.ztab,q.old,q.os,q.gens,q.ns,q.cells,q.cap,q.ownc,fun p hp=>?_,?_,fun a ha=>?_,fun a ha=>?_,fun a ha=>?_,q.g3,fun a ha=>?_⟩,x.le,x.keep,fun a ha=>?_,x.znew⟩
 ·rcases mem_append.mp hp with h | h
  ·exact q.mem p h
  ·exact(hn p h).2.1
 ·have nd:=r.nd
  have e:Z0 X {B with mem:=B.mem++new}=Z0 X B++keys new:=by
   unfold Z0;rw[km];simp
  rw[e];exact nodup_append.mpr ⟨nd,hnd,fun a ha b hb e=>hf b hb (e ▸ ha)⟩
 ·rcases(ft a).mp ha with h | h
  ·exact q.zfoot a h
  ·refine Zb fun o e=>?_;have:=r.zin _ _ e;rw[hn1 a h] at this;exact nsE this
 ·rcases(ft a).mp ha with h | h
  ·exact q.bfoot a h
  ·refine Zb fun o e=>?_;obtain⟨o2,h2⟩:=r.old.there _ _ e;rw[hn1 a h] at h2;exact nsE h2
 ·rcases(ft a).mp ha with h | h
  ·exact q.ex a h
  ·obtain⟨p,hp,rfl⟩:=mem_map.mp h;have hc:=(hn p hp).2.1
   revert hc
   cases p.2 <;> intro hc
   ·obtain⟨_,⟨_,h⟩,_⟩:=hc;exact⟨_,h⟩
   ·obtain⟨_,⟨o,_,_,h,_⟩,_⟩:=hc;exact⟨o,h⟩
   ·obtain⟨_,⟨o,_,_,h,_⟩,_⟩:=hc;exact⟨o,h⟩
   ·obtain⟨_,⟨o,_,_,h,_⟩,_⟩:=hc;exact⟨o,h⟩
   ·obtain⟨o,h,_⟩:=hc;exact⟨o,h⟩
 ·have ha:a ∈ keys (B.mem++new):=ha;rw[km] at ha;rcases mem_append.mp ha with h | h
  ·exact q.low a h
  ·obtain⟨p,hp,rfl⟩:=mem_map.mp h;exact(hn p hp).2.2
 ·have ha:a ∈ keys (B.mem++new):=ha;rw[km] at ha;rcases mem_append.mp ha with h | h
  ·exact .inl h
  ·exact .inr (hn1 a h)
noncomputable def KIn(X:Cx)(K:Frag):Prop:=∀ a o,K.lookup a=some o->X.base.get? a=some o /\ o.cls ≠ .none
theorem KIn.nil:KIn X []:=fun _ _ e=>nomatch e
theorem KIn.cons{a:Addr}{o:Obj}{K:Frag}(h:X.base.get? a=some o)(hc:o.cls ≠ .none)(k:KIn X K):KIn X ((a,o)::K):=fun b p e=>by
 rw[lookup_cons] at e;cases hb:b == a with
 | true=>rw[hb] at e;cases e;rw[eq_of_beq hb];exact⟨h,hc⟩
 | false=>rw[hb] at e;exact k b p e
theorem KIn.at{K:Frag}(h:KIn X K)(r:Rel X B Z s):K.In s.heap:=fun a o e=>r.base (h a o e).1 (h a o e).2
theorem Keep.cls{K:Frag}{C:Addr}(hK:KIn X K)(hm:makesIn K C=true):Keep X B (.ref C):=fun Z s Q r h=>by
 have Y:=makes_of (M:=model X.prog X.w) (hK.at r) hm;obtain⟨oc,od,cd,sl,ho,_⟩:=Y.obj;unfold keeperOf;refine wpAny_bind (wpAny_load ho ?_);refine wpAny_bind (Y.call.here ?_);exact wpAny_pure (h _)
theorem CALL.make{K:Frag}{C fI:Addr}{ds:List V}{k:Nat}(hK:KIn X K)(hm:makesIn K C=true)(hi:findIn K (.ref C) "__init__" =some (some (.ref fI)))(hf:typeIn K (.ref fI)=some (.type "function"))(hA:Rm X.A (k + 1))
  (h:∀ A' x dx,Rm A' k->CALLR (X.at A') (.ref fI) (.ref x::ds) {B with mem:=B.mem++[(x,.raw (·=instObj C dx)),(dx,.ns [])]} fun d B2=>d=.none /\ P (.ref x) B2):CALL X (.ref C) ds B P:=fun Z s vs r hv=>by
 refine wpAny_call ?_;obtain⟨hh,g,d,t,os⟩:=s;have kin:=hK.at r;refine make_core (makes_of kin hm) (looks_findIn kin hi) (fun self=>bind_fn kin self hf) (.inl rfl) ?_;have sz:=r.sz3;have e1:((hh.push emptyDict).push (instObj C hh.objs.size)).get? hh.objs.size=some emptyDict:=get?_push_of_some _ (get?_push_size _ rfl)
 have e2:((hh.push emptyDict).push (instObj C hh.objs.size)).get? (hh.objs.size + 1)=some (instObj C hh.objs.size):=by
  have:=get?_push_size (hh.push emptyDict) (o:=instObj C hh.objs.size) rfl;rwa [size_push] at this
 have x:Ext X B Z ⟨hh,g,d,t,os⟩ {B with mem:=B.mem++[(hh.objs.size + 1,.raw (·=instObj C hh.objs.size)),(hh.objs.size,.ns [])]} Z ⟨(hh.push emptyDict).push (instObj C hh.objs.size),g,d,t,os⟩:=by
  refine Ext.addMs r (tk:=t) (fun b o e=>get?_push_of_some _ (get?_push_of_some _ e)) (by simp[keys]) fun p hp=>?_;simp only[mem_cons,not_mem_nil,or_false] at hp;rcases hp with rfl | rfl
  ·exact⟨get?_none_of_le (le_succ _),⟨_,e2,rfl⟩,lt_succ_of_lt sz⟩
  ·refine⟨get?_none_of_le (le_refl _),⟨fun _=>none,⟨_,#[],0,e1,rfl,?_,?_,?_⟩,?_,?_⟩,sz⟩
   ·intro e he;simp at he
   ·exact List.Pairwise.nil
   ·intro name;rfl
   ·intro y d' hy;exact mnE hy
   ·intro y _;rfl
 refine h _ (hh.objs.size + 1) hh.objs.size (hA.under (le_of_ble_eq_true rfl) (le_of_ble_eq_true rfl)) Z _ (.ref (hh.objs.size + 1)::vs) _ x.rel.at ⟨_,_,rfl,Yh,hv⟩ fun v s' q=>?_;obtain⟨Z2,B2,d2,y,hr,rfl,hp⟩:=q;cases hr;exact⟨rfl,Z7 (x.trans y.unat) Yh hp⟩
structure ClsX(X:Cx)(C N:Addr)(mN:Str->Option Value):Prop where
 base:ClsAt X.base C N mN
 cls:∀ o,X.base.get? C=some o->o.cls ≠ .none
theorem ClsX.here{C N mN}(h:ClsX X C N mN)(r:Rel X B Z s):ClsAt s.heap C N mN:=by
 obtain⟨⟨nm,q,bs,sn,sub,col,dd,k0,k1,k2,k3,k5,e⟩,hn⟩:=h.base;exact⟨⟨nm,q,bs,sn,sub,col,dd,k0,k1,k2,k3,k5,r.base e (h.cls _ e)⟩,r.baseNs hn⟩
theorem Rel.inst(r:Rel X B Z s){x C dx:Addr}{l}(hx:(x,Cell.raw (·=instObj C dx)) ∈ B.mem)(hd:(dx,Cell.ns l) ∈ B.mem)(hne:dx ≠ x):
  ∃ m,s.heap.Inst x C m /\ s.heap.get? x=some (instObj C dx) /\ s.heap.Ns1 dx m /\ (∀ y d,(y,d) ∈ l->∃ v,m y=some v /\ VRel X.prog X.w Z d v) /\ ∀ y,y ∉ l.map (·.1)->m y=none:=by
 obtain⟨o,ho,rfl⟩:=r.mem _ hx;obtain⟨m,hn,h1,h2⟩:=r.mem _ hd;exact⟨m,⟨_,ho,rfl,(fun c e=>by exact(nomatch e)),.inr ⟨dx,rfl,hne,hn⟩⟩,ho,hn,h1,h2⟩
theorem X4(r:Rel X B Z s){x dx:Addr}{p:Obj->Prop}{l}(hx:(x,Cell.raw p) ∈ B.mem)(hd:(dx,Cell.ns l) ∈ B.mem):dx ≠ x:=fun e=>by
 subst e;have nd:=r.nd;unfold Z0 at nd;have nd2:=(nodup_append.mp (nodup_cons.mp nd).2).2.1
 have:∀ m:List (Addr × Cell),(keys m).Nodup->∀ a c c',(a,c) ∈ m->(a,c') ∈ m->c=c':=by
  intro m
  induction m with
  | nil=>intro _ a c c' h;exact mnE h
  | cons q m ih=>
   intro nd a c c' h1 h2;simp only[keys,map_cons,nodup_cons] at nd;rcases mem_cons.mp h1 with h1 | h1 <;> rcases mem_cons.mp h2 with h2 | h2
   ·rw[<- h1] at h2;cases h2;rfl
   ·exact absurd (mem_map_of_mem (f:=(·.1)) h2) (by rw[<- h1] at nd;exact nd.1)
   ·exact absurd (mem_map_of_mem (f:=(·.1)) h1) (by rw[<- h2] at nd;exact nd.1)
   ·exact ih nd.2 a c c' h1 h2
 cases this _ nd2 _ _ _ hx hd
theorem EV.attrI{value:PySem.Expr}{Zv:Str}{pos:Pos}(C N:Addr)(mN:Str->Option Value)(hc:ClsX X C N mN)
  (hg:mN "__getattribute__" =Option.none) (hna:mN Zv=Option.none) (hB:typeLookup (.type "object") Zv=pure Option.none)
  (h:EV X value B fun d B1=>∃ x dx l d',d=.ref x /\ (x,Cell.raw (·=instObj C dx)) ∈ B1.mem /\ (dx,Cell.ns l) ∈ B1.mem /\ (Zv,d') ∈ l /\ (∀ Z v,VRel X.prog X.w Z d' v->handedOut v=pure v) /\ P d' B1)
  (he:∀ env,eval (.Attribute value Zv pos) env=(do
   let o <- eval value env
   standAt pos.atName
   let r <- holding [o] (getAttr o Zv true)
   letTemporaryGo value o r
   pure r):=by intro _;with_unfolding_all rfl):EV X (.Attribute value Zv pos) B P:=fun Z s r=>
 Attribute_any_ (J.use h r fun Z1 s1 B1 d v x1 r1 h1=>by
  obtain⟨x,dx,l,d',rfl,hx,hd,hm,hh,hp⟩:=h1;cases r1;obtain⟨m,hI,ho,hn,hl,_⟩:=x1.rel.inst hx hd (X4 x1.rel hx hd);obtain⟨v,hv,hvr⟩:=hl _ _ hm;obtain⟨⟨nm,q,bs,sn,sub,col,dd,k0,k1,k2,k3,k5,hC⟩,hN⟩:=hc.here x1.rel;obtain⟨hh1,g1,d1,t1,os1⟩:=s1
  exact load_attr hC hN hg hna hB hI hv (hh _ _ hvr) (Z7 x1.toks hvr hp)) (he _)
inductive PutS(x:Str)(d:V):List (Str × V)->List (Str × V)->Prop
 | new:PutS x d [] [(x,d)]
 | hit {u l}:x ∉ l.map (·.1)->PutS x d ((x,u)::l) ((x,d)::l)
 | miss {y u l l'}:y ≠ x->PutS x d l l'->PutS x d ((y,u)::l) ((y,u)::l')
theorem PutS.spec{x d l l'}(q:PutS x d l l'):(∀ y e,(y,e) ∈ l'->(y=x /\ e=d) \/ (y ≠ x /\ (y,e) ∈ l)) /\ ∀ y,y ∉ l'.map (·.1)->y ≠ x /\ y ∉ l.map (·.1):=by
 induction q with
 | new=>
  refine⟨fun y e h=>?_,fun y h=>⟨fun e=>h (by rw[e];exact .head _),not_mem_nil⟩⟩;cases mem_singleton.mp h;exact .inl ⟨rfl,rfl⟩
 | hit hx=>
  refine⟨fun y e h=>?_,fun y h=>⟨fun e=>h (by rw[e];exact .head _),h⟩⟩;rcases mem_cons.mp h with h | h
  ·cases h;exact .inl ⟨rfl,rfl⟩
  ·exact .inr ⟨fun e=>hx (e ▸ mem_map_of_mem (f:=(·.1)) h),.tail _ h⟩
 | miss hy _ ih=>
  refine⟨fun y e h=>?_,fun y h=>?_⟩
  ·rcases mem_cons.mp h with h | h
   ·cases h;exact .inr ⟨hy,.head _⟩
   ·rcases ih.1 y e h with h | h
    ·exact .inl h
    ·exact .inr ⟨h.1,.tail _ h.2⟩
  ·have:=ih.2 y fun hm=>h (.tail _ hm);exact⟨this.1,fun hm=>(mem_cons.mp hm).elim (fun e=>h (by rw[e];exact .head _)) this.2⟩
theorem Rel.setMemK(r:Rel X B Z s){a:Addr}{c:Cell}{mem':List (Addr × Cell)}(hu:UpM a c B.mem mem'){h':Heap}{tk:Nat}(hs:∀ b o,b ≠ a->s.heap.get? b=some o->h'.get? b=some o)
  (hc:CellRel X.prog X.w Z h' a c):Ext X B Z s {B with mem:=mem'} Z {s with heap:=h',toks:=tk}:=by
 have hk:=hu.keys;have hL:a ∈ Z0 X B:=mem_cons_of_mem _ (mem_append_right _ hu.has);have nd:=r.nd;have k:∀ b o,s.heap.get? b=some o->b ∉ Z0 X B->h'.get? b=some o:=fun b o e hb=>hs b o (fun h=>hb (h ▸ hL)) e;have ft:Z0 X {B with mem:=mem'}=Z0 X B:=by unfold Z0;rw[hk]
 have nd2:(keys B.mem).Nodup:=by
  unfold Z0 at nd;exact(nodup_append.mp (nodup_cons.mp nd).2).2.1
 have neL:X.env.locals ≠ a:=fun e=>by
  unfold Z0 at nd;exact(nodup_cons.mp nd).1 (e ▸ mem_append_right _ hu.has)
 have neO:∀ c' ∈ X.own,c' ≠ a:=fun c' hc' e=>by
  unfold Z0 at nd;have n1:=nodup_append.mp (nodup_cons.mp nd).2;exact n1.2.2 _ (e ▸ hc') _ hu.has rfl
 refine⟨⟨⟨r.fr.lnd,r.fr.lk,r.fr.ck,r.fr.cnd,r.fr.cinj,r.fr.pk,r.fr.dbg,r.fr.kind⟩,fun b o e=>Xr r (fun b o e hb _=>k b o e hb) b o e,r.st,r.ztab,r.oldKeep k,r.os,r.gens,?_,fun x ov hx=>?_,r.cap,fun c' hc'=>?_,fun p hp=>?_,by rw[ft];exact r.nd,by rw[ft];exact r.zfoot,by rw[ft];exact r.bfoot,?_,r.g3,by rw[hk];exact r.low⟩,
  fun _ _ e=>e,fun b o e hb _=>k b o e hb,fun b h=>.inl (by rw[<- hk];exact h),fun _ _ h=>.inl h⟩
 ·obtain⟨m,hn,hm⟩:=r.ns;exact⟨m,hn.at' fun o e=>hs _ o neL e,hm⟩
 ·obtain⟨c',uo,h1,h2,⟨ob,hob,hd⟩,h4⟩:=r.cells x ov hx;exact⟨c',uo,h1,h2,⟨ob,hs _ _ (neO _ h1) hob,hd⟩,h4⟩
 ·obtain⟨uo,ob,hob,hd⟩:=r.ownc c' hc';exact⟨uo,ob,hs _ _ (neO _ hc') hob,hd⟩
 ·rcases hu.mem nd2 p hp with rfl | ⟨hp',hne⟩
  ·exact hc
  ·exact(r.mem p hp').mono (fun _ _ e=>e) fun o e=>hs _ o hne e
 ·rw[ft];intro b hb
  by_cases h:b=a
  ·subst h
   revert hc
   cases c <;> intro hc
   ·obtain⟨_,⟨_,h⟩,_⟩:=hc;exact⟨_,h⟩
   ·obtain⟨_,⟨o,_,_,h,_⟩,_⟩:=hc;exact⟨o,h⟩
   ·obtain⟨_,⟨o,_,_,h,_⟩,_⟩:=hc;exact⟨o,h⟩
   ·obtain⟨_,⟨o,_,_,h,_⟩,_⟩:=hc;exact⟨o,h⟩
   ·obtain⟨o,h,_⟩:=hc;exact⟨o,h⟩
  ·obtain⟨o,ho⟩:=r.ex b hb;exact⟨o,hs b o h ho⟩
noncomputable def SETA(X:Cx)(Zv:Str)(x:Addr)(d:V)(B:St)(Q:St->Prop):Prop:=
 ∀ Z s v,Rel X B Z s->VRel X.prog X.w Z d v->wpAny (model X.prog X.w) X.A (setAttr (.ref x) Zv v) (Post X (REq (α:=Unit)) B Z s fun _ B'=>Q B') Zm s
theorem SETA.inst{Zv:Str}{x dx:Addr}{d:V}{Q:St->Prop}{l l' mem'}(C N:Addr)(mN:Str->Option Value)(hc:ClsX X C N mN)
  (hs:mN "__setattr__" =none) (hna:mN Zv=none) (hB:typeLookup (.type "object") Zv=pure none)
  (hx:(x,Cell.raw (·=instObj C dx)) ∈ B.mem) (hd:(dx,Cell.ns l) ∈ B.mem) (hp:PutS Zv d l l') (hu:UpM dx (.ns l') B.mem mem') (hlen:l.length ≤ sizeLine) (h:Q {B with mem:=mem'}):SETA X Zv x d B Q:=fun Z s v r hv=>by
 have hne:=X4 r hx hd
 have hxC:x ≠ C:=fun e=>by
  have hb:=r.bfoot x (r.nonempty hx);obtain⟨nm,q,bs,sn,sub,col,dd,k0,k1,k2,k3,k5,hC⟩:=hc.base.obj;rw[e,hC] at hb;exact snE hb
 obtain⟨m,hI,ho,hn,hl,hout⟩:=r.inst hx hd hne;obtain⟨⟨nm,q,bs,sn,sub,col,dd,k0,k1,k2,k3,k5,hC⟩,hN⟩:=hc.here r;obtain⟨hh,g,d1,t,os⟩:=s
 refine store_attr (ns:=l.map (·.1)) F.store_object hC hN hs hna hB hxC hI (fun h' tk' I' hk hsame=>?_) (fun y hy=>by
  by_cases e:y ∈ l.map (·.1)
  ·exact e
  ·exact absurd (hout y e) hy) (by rw[length_map];exact hlen)
 obtain⟨o1,ho1,e1,e2,e3,e4⟩:=hsame _ ho
 have ho1':o1=instObj C dx:=by
  obtain⟨c1,c2,c3,c4⟩:=o1;simp only at e1 e2 e3 e4;have:=e4 dx rfl;subst e1 e2 e3 this;rfl
 subst ho1';obtain⟨o2,ho2,_,_,hd2⟩:=I';have ho2':h'.get? x=some o2:=ho2;rw[ho1] at ho2';cases ho2'
 have hN1:h'.Ns1 dx (fun y=>if y=Zv then some v else m y):=by
  rcases hd2 with⟨e,_⟩ | ⟨d',e,_,hq⟩
  ·exact snE e
  ·cases e;exact hq
 have ks:∀ b o,b ≠ dx->hh.get? b=some o->h'.get? b=some o:=fun b o hb e=>by
  by_cases hbx:b=x
  ·subst hbx;have:hh.get? b=some (instObj C dx):=ho;rw[e] at this;cases this;exact ho1
  ·exact hk b o hbx (fun o₀ d₀ h0 h1=>by
    have:hh.get? x=some (instObj C dx):=ho
    rw[h0] at this;cases this;cases h1;exact hb) e
 refine⟨_,_,(),r.setMemK (tk:=tk') hu ks ⟨_,hN1,fun y e hy=>?_,fun y hy=>?_⟩,rfl,h⟩
 ·rcases hp.spec.1 y e hy with⟨rfl,rfl⟩ | ⟨hy1,hy2⟩
  ·exact⟨v,if_pos rfl,hv⟩
  ·obtain⟨u,hu1,hu2⟩:=hl y e hy2;exact⟨u,by rw[if_neg hy1];exact hu1,hu2⟩
 ·have:=hp.spec.2 y hy;rw[if_neg this.1];exact hout y this.2
theorem ES.asgAttr{o value:PySem.Expr}{Zv:Str}{pos' pos:Pos}{Q:Fl->St->Prop}(h:EV X value B fun d B1=>EV X o B1 fun od B2=>∃ x,od=.ref x /\ SETA X Zv x d B2 (Q .next))
  (hs:swapsWith value (some (.Attribute o Zv pos')) pos.line X.env=pure false):ES X (.Assign [.Attribute o Zv pos'] value pos) B Q:=fun Z s r=>
 plainObj_wpAny_Assign_Attribute (J.use h r fun Z1 s1 B1 d v x1 r1 h1=>J.use h1 x1.rel fun Z2 s2 B2 od ov x2 r2 h2=>by
  obtain⟨x,rfl,h3⟩:=h2;cases r2
  exact wpAny_mono (h3 Z2 s2 v x2.rel (r1.mono x2.le)) (fun _ s3 ⟨Z3,B3,b,x3,_,hq⟩=>here ((x1.trans x2).trans x3) Zz hq) fun _ _ h=>h) hs
theorem mem_right{α:Type}{a:α}{l m:List α}(h:a ∈ l):a ∈ m++l:=mem_append_right _ h
theorem mem_left{α:Type}{a:α}{l m:List α}(h:a ∈ m):a ∈ m++l:=mem_append_left _ h
theorem UpM.right{a c l l'}(h:UpM a c l l'):∀ {m:List (Addr × Cell)},UpM a c (m++l) (m++l')
 | []=>h
 | _::_=>.tail h.right
theorem UpM.left{a c l l'}(h:UpM a c l l'){m:List (Addr × Cell)}:UpM a c (l++m) (l'++m):=by
 induction h with
 | head=>exact .head
 | tail _ ih=>exact .tail ih
theorem EV.methU{o:PySem.Expr}{name:Str}{apos pos:Pos}{args:List PySem.Expr}(C N:Addr)(mN:Str->Option Value)(f:Addr)(hc:ClsX X C N mN)(hg:mN "__getattribute__" =Option.none)(hnh:mN "__getattr__" =Option.none)
  (hf:mN name=some (.ref f)) {of:Obj} (hfo:X.base.get? f=some of) (hfc:of.cls=.type "function") {y:Option Value} (hB:typeLookup (.type "object") name=pure y)
  (h:EV X o B fun d B1=>∃ x dx l,d=.ref x /\ (x,Cell.raw (·=instObj C dx)) ∈ B1.mem /\ (dx,Cell.ns l) ∈ B1.mem /\ name ∉ l.map (·.1) /\ EVs X pos args B1 fun ds B2=>Keep X B2 (.ref f) /\ CALL X (.ref f) (.ref x::ds) B2 P)
  (hbase:∀ env,attributeBase o name env (eval o env)=eval o env:=by intro _;rfl)
  (hfew:∀ env,((backTo pos (starEach args env)).all (fun x=>!x.1) && (backToKw pos (keywordEach [] env)).all (fun x=>x.1.isSome)
   && decide (args.length + ([]:List Keyword).length + (if ([]:List Keyword).isEmpty then 0 else 1) < 30))=true:=by intro _;rfl)
  (hline:(apos.endLine == pos.line)=true:=by rfl) (hp:∀ env,(starEach args env).any (·.1)=false:=by intro _;rfl):EV X (.Call (.Attribute o name apos) args [] pos) B P:=fun Z s r=>by
 rw[arm_eval_Call,hbase];refine wpAny_bind (J.use h r fun Z1 s1 B1 d v x1 r1 h1=>?_);obtain⟨x,dx,l,rfl,hx,hd,hl,h2⟩:=h1;cases r1;obtain⟨m,hI,ho,hn,_,hout⟩:=x1.rel.inst hx hd (X4 x1.rel hx hd);obtain⟨⟨nm,q,bs,sn,sub,col,dd,k0,k1,k2,k3,k5,hC⟩,hN⟩:=hc.here x1.rel
 haveI hcc:wpAny (model X.prog X.w) X.A (callWith pos (.ref f) [.ref x] (backTo pos (starEach args X.env)) []) (Post X (RV X) B Z s P) Zm s1:=by
  refine Ye (Yg (hp _)) (J.use h2 x1.rel fun Z2 s2 B2 ds vs x2 r2 h3=>?_);refine⟨fun Q hQ=>h3.1 Z2 s2 Q x2.rel hQ,?_⟩;exact wpAny_mono (h3.2 Z2 s2 (.ref x::vs) x2.rel ⟨_,vs,rfl,Yh,r2⟩) (fun _ _ q=>q.lift (x1.trans x2)) fun _ _ h=>h
 haveI hfo':=x1.rel.base hfo (by rw[hfc];intro e;exact(nomatch e))
 refine wpAny_bind (wpAny_standAt ?_)
 haveI hform:methodCallForm (args.length + ([]:List Keyword).length) (backTo pos (starEach args X.env)) (backToKw pos (keywordEach [] X.env))=true:=hfew _
 haveI hpos:methodCallPos true o X.env apos pos=pure pos:=by unfold methodCallPos;exact if_pos (by assumption)
 obtain⟨hh1,g1,d1,t1,os1⟩:=s1;unfold methodCall;rw[hform];refine wpAny_bind (wpAny_holding (method_of hC hN hg hnh hf hfo' hfc hB hI (hout _ hl) ?_));exact wpAny_bind (wpAny_of_eq hpos hcc)
inductive LC2(X:Cx)(α β:Type)(elt t1 t2 it2:PySem.Expr)(scope:Scope)(P:V->St->Prop)(d:V)(B1:St):Prop
 | mk (locc celc:List (Str × Option V)) (capc:List (Str × V)) (xs:List α) (enc:α->V) (ys:α->List β) (enc2:β->V) (F:α->β->V) (hit:ITERC X t1 B1 d (xs.map enc)) (hL:ScL B1.cel B1.cap scope.names locc celc capc)
  (hsz:(xs.flatMap fun x=>(ys x).map (F x)).length ≤ sizeLine)
  (turn:∀ C D c x,x ∈ xs->AS (X.comp scope C) t1 (enc x) ⟨locc,celc,capc,B1.mem++[(D,c)]⟩ fun B2=>Back ⟨locc,celc,capc,[]⟩ (B1.mem++[(D,c)]) B2 ∧
   EV (X.comp scope C) it2 B2 (fun d2 B3=>ITERC (X.comp scope C) t2 B3 d2 ((ys x).map enc2) /\ Back B2 (B1.mem++[(D,c)]) B3) ∧
   ∀ y ∈ ys x,∀ c',AS (X.comp scope C) t2 (enc2 y) {B2 with mem:=B1.mem++[(D,c')]} fun B4=>EV (X.comp scope C) elt B4 fun d B5=>d=F x y /\ Back B2 (B1.mem++[(D,c')]) B5)
  (fin:P (.list (xs.flatMap fun x=>(ys x).map (F x))) B1)
theorem LC2.next{α β:Type}{xs:List α}{ys:α->List β}{i:Nat}{x:α}(hx:xs[i]?=some x):(xs.take (i + 1)).flatMap ys=(xs.take i).flatMap ys++ys x:=by
 rw[Za hx,flatMap_append];simp
theorem LC2.len{α β:Type}{xs:List α}{ys:α->List β}{i n:Nat}{x:α}(hx:xs[i]?=some x)(h:(xs.flatMap ys).length ≤ n):((xs.take i).flatMap ys).length + (ys x).length ≤ n:=by
 rw[<- length_append,<- LC2.next hx];refine le_trans ?_ h;rw[<- List.take_append_drop (i + 1) xs,flatMap_append,length_append,List.take_append_drop];exact le_add_right ..
theorem LC2.len2{β γ:Type}{l:List γ}{zs:List β}{f:β->γ}{j n:Nat}(h:l.length + (zs.map f).length ≤ n):(l++(zs.take j).map f).length ≤ n:=by
 refine le_trans ?_ h;rw[length_append,length_map,length_map];exact add_le_add_left (List.length_take_le' ..) _
theorem LC2.step{β:Type}{elt t1 t2 it1 it2:PySem.Expr}{scope:Scope}{pos:Pos}{locc celc:List (Str × Option V)}{capc:List (Str × V)}{zs:List β}{enc2:β->V}{F:β->V}{m:List (Addr × Cell)}{C D:Addr}{l:List V}{B2:St}(hsz:l.length + (zs.map F).length ≤ sizeLine)
  (hs2:∀ env x,foldedSetIterable it2 env x=pure x) (hb:Back ⟨locc,celc,capc,[]⟩ (m++[(D,.list l)]) B2)
  (hit2:EV (X.comp scope C) it2 B2 (fun d2 B3=>ITERC (X.comp scope C) t2 B3 d2 (zs.map enc2) /\ Back B2 (m++[(D,.list l)]) B3))
  (hy:∀ y ∈ zs,∀ c',AS (X.comp scope C) t2 (enc2 y) {B2 with mem:=m++[(D,c')]} fun B4=>EV (X.comp scope C) elt B4 fun d B5=>d=F y /\ Back B2 (m++[(D,c')]) B5):
  IN (X.comp scope C) (.ListComp elt [⟨t1,it1,[],0⟩,⟨t2,it2,[],0⟩] scope pos) 0 (.ref D) B2 (Back ⟨locc,celc,capc,[]⟩ (m++[(D,.list (l++zs.map F))])):=by
 haveI q:=IN.clause (X:=X.comp scope C) (B:=B2) (e:=.ListComp elt [⟨t1,it1,[],0⟩,⟨t2,it2,[],0⟩] scope pos) (.inl ⟨_,_,_,_,rfl⟩) (by
   intro g hg
   haveI hg':g ∈ [(⟨t1,it1,[],0⟩:Comprehension),⟨t2,it2,[],0⟩]:=hg
   rcases mem_cons.mp hg' with rfl | h
   ·rfl
   ·rw[mem_singleton.mp h]) (k:=0) (B₀:=⟨locc,celc,capc,[]⟩) (B₁:=B2) (D:=D) (target:=t2) (iter:=it2) (ifs:=[]) rfl (fun _=>m)
   (fun j=>.list (l++(zs.take j).map F)) (zs.map enc2) (J.mono hit2 fun d B3 h=>⟨h.1,?_⟩) (fun j dj hj=>?_) (fun B' hb'=>hb.trans hb') hs2
 ·refine IN.post q fun B' hb'=>?_;rw[length_map,take_length] at hb';exact hb'
 ·refine⟨h.2.1,h.2.2.1,h.2.2.2.1,?_⟩;rw[h.2.2.2.2,List.take_zero,map_nil,append_nil]
 ·rw[getElem?_map,Option.map_eq_some_iff] at hj;obtain⟨y,hy1,rfl⟩:=hj;refine AS.mono (hy y (mem_of_getElem? hy1) _) fun B4 h4=>TS.nil ?_;rw[if_pos rfl,Za hy1,map_append,<- append_assoc];exact IN.one rfl (LC2.len2 hsz) h4
theorem EV.lc2{α β:Type}{elt t1 t2 it1 it2:PySem.Expr}{scope:Scope}{pos:Pos}(h:EV X it1 B (LC2 X α β elt t1 t2 it2 scope P))
  (hok:Zc scope.names=true) (hfk:Y3 scope.names (B.cel.map (·.1)) (B.cap.map (·.1))=true) (hk:scope.kind=.function) (hs:∀ x,foldedSetIterable it1 X.env x=pure x)
  (hs2:∀ env x,foldedSetIterable it2 env x=pure x:=by intro _ _;rfl):
  EV X (.ListComp elt [⟨t1,it1,[],0⟩,⟨t2,it2,[],0⟩] scope pos) B P:=by
 refine EV.lcg (J.mono h fun d B1 h=>?_) (fun g hg=>by rw[mem_singleton.mp hg]) hok hfk hk hs
 induction h with
 | mk locc celc capc xs enc ys enc2 F hit hL hsz turn hP=>
  refine .mk _ locc celc capc hit hL (fun _=>B1.mem) (fun i=>.list ((xs.take i).flatMap fun x=>(ys x).map (F x))) rfl rfl (fun C D i di hi=>?_) ⟨rfl,?_⟩
  ·rw[getElem?_map,Option.map_eq_some_iff] at hi;obtain⟨x,hx,rfl⟩:=hi;refine AS.mono (turn C D _ x (mem_of_getElem? hx)) fun B2 h2=>TS.nil ?_;rw[if_pos rfl,LC2.next hx];exact LC2.step (LC2.len hx hsz) hs2 h2.1 h2.2.1 h2.2.2
  ·rw[length_map,take_length];exact hP
theorem SUB.lcell{a:Addr}{l:List V}{k:Int}{d:V}{j:Nat}(hm:(a,Cell.list l) ∈ B.mem)(hk:seqIndex? k l.length=some j)(hd:l[j]?=some d)(hf: -(2 ^ 63) ≤ k /\ k < 2 ^ 63)(h:P d B):SUB X (.ref a) (.int k) B P:=fun Z s v1 v2 r h1 h2=>by
 cases h1;obtain⟨t,rfl⟩:=h2;obtain⟨its,⟨n,ha⟩,hr⟩:=r.mem _ hm
 haveI pl:s.heap.IsList a its:=⟨_,ha,rfl,_,rfl⟩
 haveI hlen:its.size=l.length:=by rw[<- hr.length];simp
 refine⟨⟨_,_,⟨_,ha,rfl⟩,slot_list_getitem.lookup⟩,?_⟩;obtain⟨v,hv,hrv⟩:=hr.get hd
 haveI hv':its[j]?=some v:=by exact(getElem?_toList ..).symm.trans (hv)
 rcases Wd hk with⟨h0,h1,rfl⟩ | ⟨h0,h1,rfl⟩
 ·exact wpAny_getItem_list pl h0 hf.2 hv' (Z7 (Ext.refl r) hrv h)
 ·exact wpAny_getItem_list_neg pl h0 (hlen ▸ V8 h1) hf.1 (by rw[hlen];exact hv') (Z7 (Ext.refl r) hrv h)
theorem SUB.lcellLast{a:Addr}{l:List V}{d:V}(hm:(a,Cell.list (l++[d])) ∈ B.mem)(h:P d B):SUB X (.ref a) (.int (-1)) B P:=by
 refine SUB.lcell (j:=l.length) hm ?_ (by exact List.getElem?_concat_length) (by decide) h
 haveI:=Vs (i:=0) (n:=(l++[d]).length) (by simp)
 rw[show(-1 - ((0:Nat):Int))= -1 by rfl] at this;rw[this];simp
theorem Ext.forgetM{l m:List (Addr × Cell)}(hs:m.Sublist l):∀ (pre:List (Addr × Cell)) {B':St} {Z':ZM},Ext X B Z s {B' with mem:=pre++l} Z' s'->∃ Z'',Ext X B Z s {B' with mem:=pre++m} Z'' s' /\ Z'.le Z'':=by
 induction hs with
 | slnil=>intro pre B' Z' x;exact⟨Z',x,fun _ _ e=>e⟩
 | @cons l1 l2 a _ ih=>
  intro pre B' Z' x
  haveI hin:a ∈ ({B' with mem:=pre++a::l2}:St).mem:=by exact mem_append_right _ mem_cons_self
  obtain⟨o,ho⟩:=x.rel.ex a.1 (x.rel.nonempty hin);obtain⟨y,hle⟩:=x.freeze (D:=a.1) (c:=a.2) (m1:=pre) (m2:=l2) rfl ho;obtain⟨Z2,y2,hle2⟩:=ih pre (B':={B' with mem:=pre++l2}) y;exact⟨Z2,y2,fun b o e=>hle2 b o (hle b o e)⟩
 | @cons_cons l1 l2 a _ ih=>
  intro pre B' Z' x
  haveI e:pre++a::l2=(pre++[a])++l2:=by simp
  rw[e] at x;obtain⟨Z2,y2,hle2⟩:=ih (pre++[a]) x
  haveI e2:(pre++[a])++l1=pre++a::l1:=by exact append_assoc ..
  rw[e2] at y2;exact⟨Z2,y2,hle2⟩
theorem EX.drop{b}{Q:Fl->St->Prop}(h:EX X b B fun fl B1=>∃ m,m.Sublist B1.mem /\ Q fl {B1 with mem:=m}):EX X b B Q:=fun Z s r=>
 wpAny_mono (h Z s r) (fun v s' hh0=>by
  obtain⟨Z1,B1,fl,x,hr,m,hs,hP⟩:=hh0;obtain⟨Z2,y,hle⟩:=Ext.forgetM hs [] (B':=B1) x;refine⟨_,_,fl,y,?_,hP⟩;cases fl with
  | ret d=>obtain⟨u,e,hu⟩:=hr;exact⟨u,e,hu.mono hle⟩
  | _=>exact hr) fun _ _ h=>h
noncomputable def CVG(X:Cx)(e:PySem.Expr)(scope:Scope)(pos:Pos)(newAcc:Sem Value)(iter:PySem.Expr)(B:St)(P:V->St->Prop):Prop:=
 ∀ Z s (use:Option (Value->Sem Unit)) (R:Value->Shared->Prop),Rel X B Z s->
  (∀ d v C B1 Z1 s1 B' Z' s',Ext X B Z s B1 Z1 s1->Ext X B1 Z1 s1 B' Z' s'->VRel X.prog X.w Z' d v->P d B'->C ∉ Z0 X B'->Z' C=none->s1.heap.get? C=none->(∃ m,s'.heap.Ns C m)->compPost (model X.prog X.w) X.A Zm use R v C (.ok .next) s')->
  wpAny (model X.prog X.w) X.A (comprehension e scope X.env pos newAcc false (eval iter X.env) use) R Zm s
theorem CVG.lcg{elt target iter:PySem.Expr}{ifs:List PySem.Expr}{gs:List Comprehension}{scope:Scope}{pos:Pos}
  (h:EV X iter B (LCG X target scope (.ListComp elt (⟨target,iter,ifs,0⟩::gs) scope pos) ifs (.list []) (LCE P)))
  (has:∀ g ∈ gs,g.is_async=0) (hok:Zc scope.names=true) (hfk:Y3 scope.names (B.cel.map (·.1)) (B.cap.map (·.1))=true) (hk:scope.kind=.function) (hs:∀ x,foldedSetIterable iter X.env x=pure x):
  CVG X (.ListComp elt (⟨target,iter,ifs,0⟩::gs) scope pos) scope (firstIterPos (⟨target,iter,ifs,0⟩::gs) pos) (newList []) iter B P:=fun Z s use R r fin=>
 Tc (oa:={cls:=.type "list",data:=.seq #[]}) (c0:=.list []) (.inl ⟨_,_,_,_,rfl⟩) rfl has hok hk rfl (fun Z h a e=>⟨#[],⟨0,e⟩,rfl⟩) (fun s Q h=>wpAny_newList (items:=[]) h (zero_le _)) r h hs hfk fin
theorem CVG.dcg{kx vx target iter:PySem.Expr}{ifs:List PySem.Expr}{gs:List Comprehension}{scope:Scope}{pos:Pos}{c0:Cell}(hc0:c0=.sdict [] [] \/ c0=.idict [] [])
  (h:EV X iter B (LCG X target scope (.DictComp kx vx (⟨target,iter,ifs,0⟩::gs) scope pos) ifs c0 (LCE P)))
  (has:∀ g ∈ gs,g.is_async=0) (hok:Zc scope.names=true) (hfk:Y3 scope.names (B.cel.map (·.1)) (B.cap.map (·.1))=true) (hk:scope.kind=.function) (hs:∀ x,foldedSetIterable iter X.env x=pure x):
  CVG X (.DictComp kx vx (⟨target,iter,ifs,0⟩::gs) scope pos) scope (firstIterPos (⟨target,iter,ifs,0⟩::gs) pos) newDict iter B P:=fun Z s use R r fin=>by
 refine Tc (oa:={cls:=.type "dict",data:=.dict #[]}) (c0:=c0) (.inr ⟨_,_,_,_,_,rfl⟩) rfl has hok hk rfl (fun Z h a e=>?_) (fun s Q h=>wpAny_newObj_type h (by exact zero_le _)) r h hs hfk fin
 haveI hd:∀ {K:Type} [DecidableEq K] (knd:KeyKind X.prog X.w K),h.DictOf knd a []:=fun knd=>⟨_,#[],0,e,⟨rfl,rfl,rfl⟩,rfl,fun _ he=>by simp at he,.nil,nodup_nil⟩
 rcases hc0 with rfl | rfl
 ·exact⟨[],hd _,rfl,rfl⟩
 ·exact⟨[],hd _,rfl,rfl⟩
theorem CVG.lcf{α:Type}{elt target iter:PySem.Expr}{ifs:List PySem.Expr}{scope:Scope}{pos:Pos}
  (h:EV X iter B (LCF X α elt target ifs scope (pLs P)))
  (hok:Zc scope.names=true) (hfk:Y3 scope.names (B.cel.map (·.1)) (B.cap.map (·.1))=true) (hk:scope.kind=.function) (hs:∀ x,foldedSetIterable iter X.env x=pure x):
  CVG X (.ListComp elt [⟨target,iter,ifs,0⟩] scope pos) scope (firstIterPos [⟨target,iter,ifs,0⟩] pos) (newList []) iter B P:=
 CVG.lcg (J.mono h fun _ _ h=>h.toG.mono fun _ _ h=>LCE.list h) (fun _ h=>nomatch h) hok hfk hk hs
theorem CVG.lcm{α:Type}{elt target iter:PySem.Expr}{scope:Scope}{pos:Pos}
  (h:EV X iter B (LCM X α elt target scope (pLs P)))
  (hok:Zc scope.names=true) (hfk:Y3 scope.names (B.cel.map (·.1)) (B.cap.map (·.1))=true) (hk:scope.kind=.function) (hs:∀ x,foldedSetIterable iter X.env x=pure x):
  CVG X (.ListComp elt [⟨target,iter,[],0⟩] scope pos) scope (firstIterPos [⟨target,iter,[],0⟩] pos) (newList []) iter B P:=
 CVG.lcf (J.mono h fun _ _ h=>h.toF) hok hfk hk hs
theorem CVG.use{e:PySem.Expr}{scope:Scope}{pos:Pos}{newAcc:Sem Value}{iter:PySem.Expr}{x:Str}{xp:Pos}{Q:Fl->St->Prop}(h:CVG X e scope pos newAcc iter B fun d B1=>AS X (.Name x xp) d B1 (Q .next))(r:Rel X B Z s):
  wpAny (model X.prog X.w) X.A (comprehension e scope X.env pos newAcc false (eval iter X.env) (some fun v=>assign (.Name x xp) X.env v)) (fun _ s'=>Post X (RFl X) B Z s Q .next s') Zm s:=by
 refine h Z s _ _ r fun d v C B1 Z1 s1 B' Z' s' x1 x2 hv hp hCf hCz hCn ⟨m,hn⟩=>?_;refine Ve (hp Z' s' v x2.rel hv) (fun Z2 s2 B2 b _ x3 _ hq=>?_)
 haveI hT:¬ Tb X C:=fun hh0=>by obtain⟨o,vs,hb,_⟩:=hh0;obtain⟨o2,h2⟩:=x1.rel.old.there _ _ hb;rw[hCn] at h2;exact nsE h2
 obtain⟨oC,hoC⟩:∃ o,s'.heap.get? C=some o:=by obtain⟨o,_,_,e,_⟩:=hn;exact⟨o,e⟩
 haveI hn2:s2.heap.Ns C m:=hn.at' fun o e=>x3.keep C o e hCf hT
 haveI hCf2:C ∉ Z0 X B2:=fun hh=>by
  rcases x3.footNew hh with h | h
  ·exact hCf h
  ·rw[hoC] at h;exact snE h
 haveI hCz2:Z2 C=none:=by
  refine Zb fun o e=>?_;rcases x3.znew C o e with h | h | h
  ·rw[hCz] at h;exact nsE h
  ·exact absurd (by unfold Z0;exact mem_cons_of_mem _ (mem_append_right _ h)) hCf
  ·rw[hoC] at h;exact snE h
 exact⟨m,hn2,fun h' hs'=>here (x1.trans (Wo (Q:=fun _ _=>True) (d:=d) (v:=v) x1.rel (x2.trans x3) hCf2 hCz2 hCn hs')) Zz hq⟩
theorem ES.asgLC{elt target iter:PySem.Expr}{ifs:List PySem.Expr}{gs:List Comprehension}{scope:Scope}{pos xp cpos:Pos}{x:Str}{Q:Fl->St->Prop}
  (h:CVG X (.ListComp elt (⟨target,iter,ifs,0⟩::gs) scope cpos) scope (firstIterPos (⟨target,iter,ifs,0⟩::gs) cpos) (newList []) iter B fun d B1=>AS X (.Name x xp) d B1 (Q .next))
  (hs:swapsWithSole [.Name x xp] (.ListComp elt (⟨target,iter,ifs,0⟩::gs) scope cpos) pos.line X.env=pure true)
  (he:(assignEach [.Name x xp] X.env).map (·.2)=[assign (.Name x xp) X.env]):ES X (.Assign [.Name x xp] (.ListComp elt (⟨target,iter,ifs,0⟩::gs) scope cpos) pos) B Q:=fun Z s r=>by
 show wpAny _ _ (exec _ _) _ _ _;rw[arm_exec_Assign,hs,he];refine wpAny_bind (wpAny_standAt (wpAny_bind (wpAny_pure ?_)));simp only[if_true];rw[arm_evalThenUse_ListComp];refine wpAny_bind (wpAny_bind (wpAny_mono (h.use r) (fun _ s' q=>wpAny_pure (wpAny_pure q)) fun _ _ h=>h))
theorem ES.asgDC{kx vx target iter:PySem.Expr}{ifs:List PySem.Expr}{gs:List Comprehension}{scope:Scope}{pos xp cpos:Pos}{x:Str}{Q:Fl->St->Prop}
  (h:CVG X (.DictComp kx vx (⟨target,iter,ifs,0⟩::gs) scope cpos) scope (firstIterPos (⟨target,iter,ifs,0⟩::gs) cpos) newDict iter B fun d B1=>AS X (.Name x xp) d B1 (Q .next))
  (hs:swapsWithSole [.Name x xp] (.DictComp kx vx (⟨target,iter,ifs,0⟩::gs) scope cpos) pos.line X.env=pure true)
  (he:(assignEach [.Name x xp] X.env).map (·.2)=[assign (.Name x xp) X.env]):ES X (.Assign [.Name x xp] (.DictComp kx vx (⟨target,iter,ifs,0⟩::gs) scope cpos) pos) B Q:=fun Z s r=>by
 show wpAny _ _ (exec _ _) _ _ _;rw[arm_exec_Assign,hs,he];refine wpAny_bind (wpAny_standAt (wpAny_bind (wpAny_pure ?_)));simp only[if_true];rw[arm_evalThenUse_DictComp];refine wpAny_bind (wpAny_bind (wpAny_mono (h.use r) (fun _ s' q=>wpAny_pure (wpAny_pure q)) fun _ _ h=>h))
end
section
variable{X:Cx}{B B':St}{Z Z':ZM}{s s':Shared}
variable{P:V->St->Prop}
theorem EV.lcgM{elt target iter:PySem.Expr}{ifs:List PySem.Expr}{gs:List Comprehension}{scope:Scope}{pos:Pos}
  (h:EV X iter B (LCG X target scope (.ListComp elt (⟨target,iter,ifs,0⟩::gs) scope pos) ifs (.list []) (LCX P)))
  (has:∀ g ∈ gs,g.is_async=0) (hok:Zc scope.names=true) (hfk:Y3 scope.names (B.cel.map (·.1)) (B.cap.map (·.1))=true) (hk:scope.kind=.function) (hs:∀ x,foldedSetIterable iter X.env x=pure x):
  EV X (.ListComp elt (⟨target,iter,ifs,0⟩::gs) scope pos) B P:=fun Z s r=>by
 rw[eval_ListComp];refine Ti (oa:={cls:=.type "list",data:=.seq #[]}) (c0:=.list []) (use:=Option.none) (.inl ⟨_,_,_,_,rfl⟩) rfl has hok hk rfl (fun Z h a e=>⟨#[],⟨0,e⟩,rfl⟩) (fun s Q h=>wpAny_newList (items:=[]) h (zero_le _)) r h hs hfk ?_;intro d v C B1 Z1 s1 B' Z' s' x1 x2 hv hq hCf hCz hCn ⟨m,hn⟩;exact⟨m,hn,fun h' hs'=>here (x1.trans (Wo (Q:=P) (d:=d) (v:=v) x1.rel x2 hCf hCz hCn hs')) hv hq⟩
theorem LCX.list{m:List (Addr × Cell)}{c:Cell}{B1:St}(h:m=B1.mem /\ ∃ l,c=.list l /\ ∀ D,P (.ref D) {B1 with mem:=B1.mem++[(D,.list l)]}):LCX P m c B1:=by
 obtain⟨rfl,l,rfl,h⟩:=h;exact h
theorem EV.lcfM{α:Type}{elt target iter:PySem.Expr}{ifs:List PySem.Expr}{scope:Scope}{pos:Pos}
  (h:EV X iter B (LCF X α elt target ifs scope fun l B1=>∀ D,P (.ref D) {B1 with mem:=B1.mem++[(D,.list l)]}))
  (hok:Zc scope.names=true) (hfk:Y3 scope.names (B.cel.map (·.1)) (B.cap.map (·.1))=true) (hk:scope.kind=.function) (hs:∀ x,foldedSetIterable iter X.env x=pure x):
  EV X (.ListComp elt [⟨target,iter,ifs,0⟩] scope pos) B P:=
 EV.lcgM (J.mono h fun _ _ h=>h.toG.mono fun _ _ h=>LCX.list h) (fun _ h=>nomatch h) hok hfk hk hs
theorem Cut.last{a:Addr}{c:Cell}:∀ (m:List (Addr × Cell)),Cut a c (m++[(a,c)]) m
 | []=>.here
 | _::m=>.tail (Cut.last m)
theorem FzE.refl{a:Addr}{w:V}:∀ l,FzE a w l l
 | []=>.nil
 | _::l=>.same (FzE.refl l)
noncomputable def AT(X:Cx)(op:BoolOp)(es:List PySem.Expr)(B:St)(Q:Bool->St->Prop):Prop:=J X (REq (α:=Bool)) (allTrue op es X.env) B Q
theorem ET.bool{op es pos}{Q:Bool->St->Prop}(h:AT X op es B Q):ET X (.BoolOp op es pos) B Q:=fun Z s r=>wpAny_isTrue_BoolOp (h Z s r)
theorem AT.andNil{Q:Bool->St->Prop}(h:Q true B):AT X .And [] B Q:=fun Z s r=>wpAny_allTrue_And_nil (here (b:=true) (Ext.refl r) rfl h)
theorem AT.orNil{Q:Bool->St->Prop}(h:Q false B):AT X .Or [] B Q:=fun Z s r=>wpAny_allTrue_Or_nil (here (b:=false) (Ext.refl r) rfl h)
theorem AT.andCons{e es}{Q:Bool->St->Prop}(h:ET X e B fun b B1=>if b then AT X .And es B1 Q else Q false B1):AT X .And (e::es) B Q:=fun Z s r=>
 wpAny_allTrue_And_cons (J.use h r fun Z1 s1 B1 b b' x1 r1 h1=>by
  cases r1;cases b with
  | true=>exact J.after h1 x1
  | false=>exact here (b:=false) x1 rfl h1)
theorem AT.orCons{e es}{Q:Bool->St->Prop}(h:ET X e B fun b B1=>if b then Q true B1 else AT X .Or es B1 Q):AT X .Or (e::es) B Q:=fun Z s r=>
 wpAny_allTrue_Or_cons (J.use h r fun Z1 s1 B1 b b' x1 r1 h1=>by
  cases r1;cases b with
  | true=>exact here (b:=true) x1 rfl h1
  | false=>exact J.after h1 x1)
end
section
variable{X:Cx}{B B':St}{Z Z':ZM}{s s':Shared}{P:V->St->Prop}
noncomputable def Yq(g:Addr)(o:Obj):Prop:=o.data=.cell (some (.ref g))
noncomputable def Cx.noOwn(X:Cx):Cx:={X with own:=[]}
theorem Rel.disown(r:Rel X B Z s){c g:Addr}{y:Str}(hown:X.own=[c])(hy:(y,some (V.ref g)) ∈ B.cel)(h3:3 < c):Rel X.noOwn {B with cel:=[],mem:=B.mem++[(c,.raw (Yq g))]} Z s:=by
 have km:keys (B.mem++[(c,Cell.raw (Yq g))])=keys B.mem++[c]:=by exact Y2 ..
 have hcell:∃ o,s.heap.get? c=some o /\ Yq g o:=by
  obtain⟨c',uo,h1,h2,⟨o,ho,hd⟩,h4⟩:=r.cells y _ hy;rw[hown,mem_singleton] at h1;subst h1;obtain⟨u,hu,hr⟩:=h4;cases hr;exact⟨o,ho,by rw[Yq,hd,hu]⟩
 have ft:∀ a,a ∈ Z0 X.noOwn {B with cel:=[],mem:=B.mem++[(c,.raw (Yq g))]}->a ∈ Z0 X B:=fun a ha=>by
  unfold Z0 at ha ⊢;rcases mem_cons.mp ha with h | h
  ·exact h ▸ mem_cons_self
  ·rcases mem_append.mp h with h | h
   ·exact mnE h
   ·have h:a ∈ keys (B.mem++[(c,Cell.raw (Yq g))]):=h;rw[km] at h;rcases mem_append.mp h with h | h
    ·exact mem_cons_of_mem _ (mem_append_right _ h)
    ·rw[mem_singleton] at h;exact mem_cons_of_mem _ (mem_append_left _ (by rw[hown,h];exact mem_singleton.mpr rfl))
 refine⟨⟨r.fr.lnd,r.fr.lk,(fun p hp=>by exact mnE hp),nodup_nil,(fun x y c h=>by exact mnE h),r.fr.pk,fun x hx=>r.fr.dbg x ?_,r.fr.kind⟩,r.zin,r.st,r.ztab,r.old,r.os,r.gens,r.ns,(fun _ _ h=>by exact mnE h),r.cap,(fun _ h=>by exact mnE h),fun p hp=>?_,?_,fun a ha=>r.zfoot a (ft a ha),fun a ha=>r.bfoot a (ft a ha),fun a ha=>r.ex a (ft a ha),r.g3,fun a ha=>?_⟩
 ·rcases mem_append.mp hx with h | h
  ·exact mem_append_left _ h
  ·exact mem_append_right _ (mem_append_right _ (by exact h))
 ·rcases mem_append.mp hp with h | h
  ·exact r.mem p h
  ·rw[mem_singleton] at h;subst h;exact hcell
 ·have nd:=r.nd;unfold Z0 at nd ⊢;show(X.env.locals::([]++keys (B.mem++[(c,Cell.raw (Yq g))]))).Nodup;rw[km,nil_append];rw[hown] at nd;have:(X.env.locals::([c]++keys B.mem)).Perm (X.env.locals::(keys B.mem++[c])):=List.Perm.cons _ List.perm_append_comm;exact this.nodup_iff.mp nd
 ·have ha:a ∈ keys (B.mem++[(c,Cell.raw (Yq g))]):=ha;rw[km] at ha;rcases mem_append.mp ha with h | h
  ·exact r.low a h
  ·rw[mem_singleton] at h;subst h;exact h3
theorem CALLR.defO{a:Addr}{o:Obj}{fd:FuncData}{body:List Stmt}{k:Nat}{ps:List Str}{ds:List V}{loc cel:List (Str × Option V)}{sub rest:List (Addr × Cell)}
  (hA:Rm X.A (k + 1)) (hlim:X.base.NoLimit) (ho:X.base.get? a=some o) (hc:o.cls ≠ .none) (hd:o.data=.func fd) (hbody:fd.body=.stmts body) (hclo:fd.closure=[]) (hcd:X.base.CodeRec fd.code fd.qualname)
  (hbind:∀ vs:List Value,vs.length=ds.length->bindArgs fd ⟨vs,[]⟩=pure (ps.zip vs)) (hlen:ps.length=ds.length)
  (hok:W1 fd.scope.names ps (loc.map (·.1)) (cel.map (·.1))=true) (hl:Xy ps ds loc) (hcl:Xy ps ds cel) (hmem:B.mem=sub++rest)
  (hone:∀ L,(X.callee fd L a).own=[L + 1])
  (h:∀ L,EX (X.callee fd L a) body ⟨loc,cel,[],sub⟩ fun f B'=>∃ y g,(y,some (V.ref g)) ∈ B'.cel /\ P (N3 f) {B with mem:=B'.mem++[(L + 1,.raw (Yq g))]++rest})
  (hco:fd.scope.isCoroutine=false:=by rfl) (hgen:fd.scope.isGenerator=false:=by rfl) (hk:fd.scope.kind=.function:=by rfl):CALLR X (.ref a) ds B P:=fun Z s vs R r hvs hR=>by
 refine CALLR.core hA hlim ho hc hd hbody hclo hcd hbind hlen hok hl hcl hmem r hvs (fun L h₁ tk hL hk₁ Zt ftc r₁=>?_) hco hgen hk;refine wpAny_mono (h L Z _ r₁) (fun f s' q=>?_) fun _ _ h=>h.elim;obtain⟨Z',B',f',x,hf,hP⟩:=q;obtain⟨y0,g,hy0,hP⟩:=hP;have hown:(X.callee fd L a).own=[L + 1]:=hone L;have h3:3 < L + 1:=lt_succ_of_lt (hL ▸ r.sz3);have rd:=x.rel.disown hown hy0 h3;have fL1:s.heap.get? (L + 1)=none:=Zt _ (le_succ _)
 obtain⟨x2,hS⟩:=Pk (X:=X) (A':=(X.callee fd L a).A) (env':=(X.callee fd L a).env) (own':=[]) (B₁:=⟨loc,[],[],sub++[(L + 1,.raw fun _=>True)]⟩) (sub:=sub) (rest:=rest) r hmem hk₁ (fun _ _ h=>h) (fun a o h=>.inl h) (fun b hb=>by
  unfold Z0 at hb;rcases mem_cons.mp hb with e0 | hb
  ·have e0:b=L:=e0;exact .inr (Zt b (le_of_eq e0.symm))
  ·have hb:b ∈ []++keys (sub++[(L + 1,Cell.raw fun _=>True)]):=hb;rw[nil_append,show keys (sub++[(L + 1,Cell.raw fun _=>True)])=keys sub++[L + 1] by exact Y2 ..] at hb;rcases mem_append.mp hb with hb | hb
   ·exact .inl hb
   ·rw[mem_singleton] at hb;exact .inr (by rw[hb];exact fL1)) rd x.le (fun b o e hb ht hn=>by
   refine x.keep b o e (fun hf=>hb ?_) ht;unfold Z0 at hf ⊢;rcases mem_cons.mp hf with e0 | hf
   ·exact e0 ▸ mem_cons_self
   ·rcases mem_append.mp hf with hf | hf
    ·rw[hown,mem_singleton] at hf;rw[hf] at hn;exact absurd fL1 hn
    ·refine mem_cons_of_mem _ (mem_append_right _ ?_);rw[show keys (sub++[(L + 1,Cell.raw fun _=>True)])=keys sub++[L + 1] by exact Y2 ..]
     exact mem_append_left _ hf) (fun b hb=>by
   have hb:b ∈ keys (B'.mem++[(L + 1,Cell.raw (Yq g))]):=hb;rw[show keys (B'.mem++[(L + 1,Cell.raw (Yq g))])=keys B'.mem++[L + 1] by exact Y2 ..] at hb;rw[show keys (sub++[(L + 1,Cell.raw fun _=>True)])=keys sub++[L + 1] by exact Y2 ..];rcases mem_append.mp hb with hb | hb
   ·rcases x.new b hb with h | h
    ·exact .inl (mem_append_left _ h)
    ·exact .inr h
   ·exact .inl (mem_append_right _ hb)) (fun b o e=>by
   rcases x.znew b o e with h | h | h
   ·exact .inl h
   ·refine .inr (.inl ?_);rw[show keys (sub++[(L + 1,Cell.raw fun _=>True)])=keys sub++[L + 1] by exact Y2 ..];exact mem_append_left _ h
   ·exact .inr (.inr h))
 exact hR _ _ (here x2 (CALLR.out (Y:=X.callee fd L a) hS hf rfl rfl) hP)
theorem EV.capM{x pos g c}(hk:X.env.kindOf x=some .free)(hc:X.env.cells.lookup x=some c)(hm:(c,Cell.raw (Yq g)) ∈ B.mem)(h:P (.ref g) B)(d1:(x == ("__debug__" :Str))=false:=by kernel_rfl)(d2:(x == ("__classdict__" :Str))=false:=by kernel_rfl):EV X (.Name x pos) B P:=fun Z s r=>by
 obtain⟨o,ho,hd⟩:=r.mem _ hm;have hv:s.heap.IsCell c (some (.ref g)):=⟨o,ho,hd⟩
 refine wpAny_Name ?_ d1;exact wpAny_loadName_free r.fr.kind hk hc hv (Z7 (Ext.refl r) Yh h) d2
noncomputable def Ur(q:Str)(o:Obj):Prop:=∃ vs t,o.data=.fields vs /\ vs[1]?=some (.str q t)
theorem EV.lam{params:Arguments}{body:PySem.Expr}{scope:Scope}{pos:Pos}{clos:List (Str × Addr)}{ps:Array Value}{mg:Str->Option Value}{c Pt:Addr}{mem':Addr->List (Addr × Cell)}
  (hdef:defaultsOf params X.env=([],[])) (hcl:closureFor scope X.env=pure clos) (hg0:X.env.globals=mainGlobals) (hg:X.base.Ns mainGlobals mg) (hcode:X.env.code=.ref c) (hC:CodeHd X.base c Pt)
  (hm:(Pt,Cell.raw (·=tabObj ps)) ∈ B.mem) (ht:TriplesOk ps.toList) (hnf:codeAmong pos ps.toList=Option.none)
  (hb:∃ bm ob,mg "__builtins__" =some (.ref bm) /\ bm ≠ builtinsNs /\ bm ≠ mainGlobals /\ X.base.get? bm=some ob /\ ob.cls=.type "module" /\ ob.dict=some builtinsNs /\ ob.data=.plain)
  (hu:∀ c',UpM Pt (.raw (·=tabObj (ps++#[rawInt pos.line,rawInt pos.col,.ref c']))) B.mem (mem' c'))
  (h:∀ R c' ctv,P (.ref R) {B with mem:=mem' c'++[(c',.raw (Ur (X.env.qual++ "<lambda>"))),(R,.raw (·=kla_obj "<lambda>" (X.env.qual++ "<lambda>") params body scope clos ((mg "__name__").getD .none) c' ctv))]}):
  EV X (.Lambda params body scope pos) B P:=fun Z s r=>by
 obtain⟨ob,hob,rfl⟩:=r.mem _ hm;have hPf:Pt ∈ Z0 X B:=r.nonempty hm;have hPb:=r.bfoot _ hPf
 have hC':CodeHd s.heap c Pt:=by
  obtain⟨o,vs,file,tf,flags,tg,inF,text,tt,e1,e2,r'⟩:=hC;exact⟨o,vs,file,tf,flags,tg,inF,text,tt,r.base e1 (by rw[e2];intro h;exact(nomatch h)),e2,r'⟩
 have hgP:mainGlobals ≠ Pt:=fun e=>by
  obtain⟨o,_,_,ho,_⟩:=hg;rw[e,hPb] at ho;exact nsE ho
 have hB:s.heap.BuiltinsAt mg Pt:=by
  obtain⟨bm,ob,b1,b2,b3,b4,b5,b6⟩:=hb;exact⟨bm,ob,b1,b2,b3,(fun e=>by rw[e,hPb] at b4;exact nsE b4),r.base b4 (by rw[b5];intro h;exact(nomatch h)),b5,b6⟩
 refine kla_eval hdef ?_;refine kla_makeFunction hcl hg0 (r.baseNs hg) hcode hC' hob ht hnf hgP hB fun c' ctv h' tk hx hge hlt hrec htb=>?_;have hPlt:=lt_size hob;obtain⟨c2,oc,vs,t,e2,hoc,hdc,hv⟩:=hrec;cases e2
 have x1:Ext X B Z s {B with mem:=mem' c'} Z {s with heap:=s.heap.update Pt (fun _=>tabObj (ps++#[rawInt pos.line,rawInt pos.col,.ref c']))}:=
  r.setMemK (tk:=s.toks) (hu c') (fun b o hb' e=>(get?_update_other _ _ (Ne.symm hb')).trans e) ⟨_,get?_update_self _ hob rfl,rfl⟩
 have x2:Ext X {B with mem:=mem' c'} Z {s with heap:=s.heap.update Pt (fun _=>tabObj (ps++#[rawInt pos.line,rawInt pos.col,.ref c']))} {B with mem:=mem' c'++[(c',.raw (Ur (X.env.qual++ "<lambda>"))),(h'.objs.size,.raw (·=kla_obj "<lambda>" (X.env.qual++ "<lambda>") params body scope clos ((mg "__name__").getD .none) c' ctv))]} Z {s with heap:=h'.push (kla_obj "<lambda>" (X.env.qual++ "<lambda>") params body scope clos ((mg "__name__").getD .none) c' ctv),toks:=tk}:=by
  refine Ext.addMs (B:={B with mem:=mem' c'}) x1.rel (fun b o e=>?_) (by simpa [keys] using ne_of_lt hlt) fun p hp=>?_
  ·by_cases hbP:b=Pt
   ·subst hbP;have:=get?_update_self (fun _=>tabObj (ps++#[rawInt pos.line,rawInt pos.col,.ref c'])) hob rfl;have e:(s.heap.update b (fun _=>tabObj (ps++#[rawInt pos.line,rawInt pos.col,.ref c']))).get? b=some o:=e;rw[this] at e;cases e;exact get?_push_of_some _ htb
   ·have e:(s.heap.update Pt (fun _=>tabObj (ps++#[rawInt pos.line,rawInt pos.col,.ref c']))).get? b=some o:=e;rw[get?_update_other _ _ (Ne.symm hbP)] at e;exact get?_push_of_some _ (hx b o hbP e)
  ·have hsz:({s with heap:=s.heap.update Pt (fun _=>tabObj (ps++#[rawInt pos.line,rawInt pos.col,.ref c']))}:Shared).heap.objs.size=s.heap.objs.size:=Heap.size_update _ _ _;have s3:=r.sz3;simp only[mem_cons,not_mem_nil,or_false] at hp;rcases hp with rfl | rfl
   ·exact⟨get?_none_of_le (by rw[hsz];exact hge),⟨oc,get?_push_of_some _ hoc,vs,t,hdc,hv⟩,lt_of_lt_of_le s3 hge⟩
   ·exact⟨get?_none_of_le (by rw[hsz];exact le_of_lt (lt_of_le_of_lt hge hlt)),⟨_,get?_push_size _ rfl,rfl⟩,lt_trans (lt_of_lt_of_le s3 hge) hlt⟩
 exact Z7 (x1.trans x2) Yh (h _ _ _)
end
end Mine
end
section
open PySem PySem.Spec PySem.Calls PyProof.Rows PySem.W PySem.SeqAt Builtin Builtin.ObjectAttr
namespace Mine
theorem Ia:mroOf (.type "function")=pure [.type "function",.type "object"]:=by kernel_rfl
theorem Tq:Slot "function" "__setattr__" "object.__setattr__" :=
 .of (owner:= "object") (n:= "__setattr__") (by rw[typeLookup_type,builtinLookup_eq_fast];kernel_rfl) (by decide +kernel) (by decide +kernel) (by decide +kernel)
  (by first | exact .inl (by decide +kernel) | exact .inr (by decide +kernel)) (by rw[isSubtype_type];kernel_rfl)
theorem N6(x:Value):refuseLoop x "__setattr__" [.type "function",.type "object"]=pure ():=by kernel_rfl
section
variable{prog:Program}{w:World}{A:Around}{E:Value->Shared->Prop}{h:Heap}{g:Array GenState}{d:Drawn}{t:Nat}{os:OsState}{x:Addr}{name:Str}{v:Value}
theorem Sb{o:Obj}{fd:FuncData}{tk:Tok}{Q:Fin->Shared->Prop}(hx:h.get? x=some o)(hc:o.cls=.type "function")(hdat:o.data=.func fd)(hdn:o.dict=none)(hB:typeLookup (.type "function") name=pure none)
  (hq:∀ h' tk',h'.get? x=some {o with dict:=some h.objs.size}->(h'.Ns1 h.objs.size fun y=>if y=name then some v else none)->(∀ b o',b ≠ x->h.get? b=some o'->h'.get? b=some o')->Q (.done (.ret .none)) ⟨h',g,d,tk',os⟩):
  wpAny (model prog w) A (Builtin.«object.__setattr__» ⟨[.ref x,.str name tk,v],[]⟩) Q E ⟨h,g,d,t,os⟩:=by
 haveI hpass:=N6 (.ref x)
 unfold Builtin.«object.__setattr__»
 repeat (first | rw[refuse_eq] | rw[Ia] | rw[hpass] | rw[hB] | (with_reducible refine wpAny_loadPart_at hx ?_;rw[hc]) | wp_step)
 rw[hdn,if_neg (by decide),hdat]
 haveI hx₁:(h.push {cls:=.type "dict",data:=.dict #[]}).get? x=some o:=get?_push_of_some _ hx
 haveI hxs:x ≠ h.objs.size:=ne_of_lt (lt_size hx)
 refine wpAny_bind (wpAny_alloc' ?_);refine wpAny_bind (wpAny_update' hx₁ ?_);refine wpAny_pure ?_
 haveI hgd:((h.push {cls:=.type "dict",data:=.dict #[]}).update x fun o=>{cls:=o.cls,dict:=some h.objs.size,data:=o.data,slots:=o.slots}).get? h.objs.size
   =some {cls:=.type "dict",data:=.dict #[]}:=
  (Heap.get?_update_ne _ _ _ _ hxs.symm).trans (Heap.get?_push_at rfl rfl)
 haveI hnd:((h.push {cls:=.type "dict",data:=.dict #[]}).update x fun o=>{cls:=o.cls,dict:=some h.objs.size,data:=o.data,slots:=o.slots}).Ns h.objs.size (fun _=>none):=
  ⟨_,#[],_,hgd,rfl,fun e he=>absurd he (by exact fun h=>nomatch h),fun _=>rfl⟩
 delta storeInDict newKeyGuard
 refine wpAny_bind (wpAny_pure (wpAny_bind (wpAny_nsSet1 (Heap.Ns1.of_empty hnd) fun h' hn' hs=>?_)));obtain⟨oD,esD,epD,hoD,hdD,hcD⟩:=hn'.count (Within.cons name v Within.nil);refine wpAny_bind (wpAny_lookBehind hoD (by rw[hdD];exact pastItsLine_dict (le_trans hcD (by rw[length_cons,length_nil,sizeLine_eq];decide))) ?_)
 wp_walk
 refine hq h' _ ?_ hn' fun b ob hbx hb=>(hs.2 b (ne_of_lt (lt_size hb))).trans ((Heap.get?_update_ne _ _ _ _ hbx).trans (get?_push_of_some _ hb));refine(hs.2 x hxs).trans (get?_update_self _ hx₁ ?_)
 haveI hfr:=(Heap.get?_some_iff.mp hx).2
 obtain⟨oc,od,odt,osl⟩:=o;cases odt <;> first | rfl | exact hfr
theorem J1(a b c:Value):argsOk "object.__setattr__" ⟨[a,b,c],[]⟩:=by delta argsOk;kernel_rfl
theorem Mw{o:Obj}{fd:FuncData}{Q:Unit->Shared->Prop}(hx:h.get? x=some o)(hc:o.cls=.type "function")(hdat:o.data=.func fd)(hdn:o.dict=none)(hB:typeLookup (.type "function") name=pure none)
  (hq:∀ h' tk',h'.get? x=some {o with dict:=some h.objs.size}->(h'.Ns1 h.objs.size fun y=>if y=name then some v else none)->(∀ b o',b ≠ x->h.get? b=some o'->h'.get? b=some o')->Q () ⟨h',g,d,tk',os⟩):
  wpAny (model prog w) A (setAttr (.ref x) name v) Q E ⟨h,g,d,t,os⟩:=by
 delta setAttr
 refine wpAny_bind (wpAny_mkText ?_);refine wpAny_bind (wpAny_callSpecial?_slot (T:= "function") ⟨o,hx,hc⟩ Tq (wpAny_call_entry Tq ⟨o,hx,hc⟩ F.entry_object_sa (Sb hx hc hdat hdn hB fun h' tk' h1 h2 h3=>?_) (J1 _ _ _)));exact⟨.none,rfl,wpAny_pure (hq h' tk' h1 h2 h3)⟩
end
end Mine
end
section
open PySem PySem.Spec PySem.Calls PyProof.Rows PySem.W PySem.SeqAt
namespace Mine
section
variable{X:Cx}{B B':St}{Z Z':ZM}{s s':Shared}{P:V->St->Prop}
theorem SETA.fn{Zv:Str}{x:Addr}{o:Obj}{fd:FuncData}{d:V}{Q:St->Prop}{mem':Addr->List (Addr × Cell)}(hm:(x,Cell.raw (·=o)) ∈ B.mem)(hc:o.cls=.type "function")(hdat:o.data=.func fd)(hdn:o.dict=none)
  (hB:typeLookup (.type "function") Zv=pure none) (hu:∀ ds,UpM x (.raw (·={o with dict:=some ds})) B.mem (mem' ds)) (h:∀ ds,Q {B with mem:=mem' ds++[(ds,.ns [(Zv,d)])]}):SETA X Zv x d B Q:=fun Z s v r hv=>by
 obtain⟨o',ho,rfl⟩:=r.mem _ hm;have s3:=r.sz3;obtain⟨hh,g,d1,t,os⟩:=s;refine Mw ho hc hdat hdn hB fun h' tk' h1 h2 h3=>?_;have hfr:o'.isFreed=false:=(Heap.get?_some_iff.mp ho).2;have ho':hh.get? x=some o':=ho;have hf2:({o' with dict:=some hh.objs.size}:Obj).isFreed=false:=(Heap.get?_some_iff.mp h1).2
 have x1:Ext X B Z ⟨hh,g,d1,t,os⟩ {B with mem:=mem' hh.objs.size} Z ⟨hh.update x (fun _=>{o' with dict:=some hh.objs.size}),g,d1,t,os⟩:=
  r.setMemK (tk:=t) (hu _) (fun b o hb' e=>(get?_update_other _ _ (Ne.symm hb')).trans e) ⟨_,get?_update_self _ ho' hf2,rfl⟩
 have hsz:(hh.update x (fun _=>{o' with dict:=some hh.objs.size})).objs.size=hh.objs.size:=Heap.size_update _ _ _
 have x2:Ext X {B with mem:=mem' hh.objs.size} Z ⟨hh.update x (fun _=>{o' with dict:=some hh.objs.size}),g,d1,t,os⟩ {B with mem:=mem' hh.objs.size++[(hh.objs.size,.ns [(Zv,d)])]} Z ⟨h',g,d1,tk',os⟩:=by
  refine Ext.addMs (B:={B with mem:=mem' hh.objs.size}) (tk:=tk') x1.rel (fun b ob e=>?_) (by exact Wg) fun p hp=>?_
  ·by_cases hbx:b=x
   ·subst hbx;have e:(hh.update b (fun _=>{o' with dict:=some hh.objs.size})).get? b=some ob:=e;rw[get?_update_self _ ho' hf2] at e;cases e;exact h1
   ·have e:(hh.update x (fun _=>{o' with dict:=some hh.objs.size})).get? b=some ob:=e;rw[get?_update_other _ _ (Ne.symm hbx)] at e;exact h3 b ob hbx e
  ·simp only[mem_cons,not_mem_nil,or_false] at hp;subst hp;refine⟨get?_none_of_le (by show(hh.update x _).objs.size ≤ _;rw[hsz];exact le_refl _),⟨_,h2,fun y e hy=>?_,fun y hy=>?_⟩,s3⟩
   ·simp only[mem_cons,not_mem_nil,or_false] at hy;cases hy;exact⟨v,if_pos rfl,hv⟩
   ·exact if_neg (by simpa using hy)
 exact⟨_,_,(),x1.trans x2,rfl,h _⟩
end
end Mine
end
section
open PySem PySem.Spec PySem.Calls PyProof.Rows PySem.W PySem.SeqAt Builtin Builtin.ObjectAttr
namespace Mine
theorem slot_fn_ga:Slot "function" "__getattribute__" "object.__getattribute__" :=
 .of (owner:= "object") (n:= "__getattribute__") (by rw[typeLookup_type,builtinLookup_eq_fast];kernel_rfl) (by decide +kernel) (by decide +kernel) (by decide +kernel)
  (by first | exact .inl (by decide +kernel) | exact .inr (by decide +kernel)) (by rw[isSubtype_type];kernel_rfl)
theorem L2:entryFor table "object.__getattribute__" =some Builtin.«object.__getattribute__»:=entryFor_of_tree (by kernel_rfl)
theorem J2(a b:Value):argsOk "object.__getattribute__" ⟨[a,b],[]⟩:=by unfold argsOk;kernel_rfl
theorem Va:typeLookup (.type "function") "__getattr__" =pure none:=by rw[typeLookup_type,builtinLookup_eq_fast];kernel_rfl
theorem Sn:isSubtype (.type "function") (.type "staticmethod")=pure false:=by rw[isSubtype_type];kernel_rfl
theorem So:isSubtype (.type "function") (.type "classmethod")=pure false:=by rw[isSubtype_type];kernel_rfl
section
variable{prog:Program}{w:World}{A:Around}{E:Value->Shared->Prop}{h:Heap}{g:Array GenState}{d:Drawn}{t:Nat}{os:OsState}{x dx:Addr}{name:Str}{v:Value}{mA:Str->Option Value}
theorem Sq{o:Obj}{fd:FuncData}{tk:Tok}{Q:Fin->Shared->Prop}(hx:h.get? x=some o)(hc:o.cls=.type "function")(hdat:o.data=.func fd)(hdx:o.dict=some dx)(hns:h.Ns dx mA)
  (hB:typeLookup (.type "function") name=pure none) (hv:mA name=some v) (hq:Q (.done (.ret v)) ⟨h,g,d,t,os⟩):
  wpAny (model prog w) A (Builtin.«object.__getattribute__» ⟨[.ref x,.str name tk],[]⟩) Q E ⟨h,g,d,t,os⟩:=by
 haveI hT:(⟨h,g,d,t,os⟩:Shared).TypeIs (.ref x) "function" :=⟨o,hx,hc⟩
 haveI hT2:(⟨h,g,d,t,os⟩:Shared).TypeIs (.ref x) "function" :=⟨o,hx,hc⟩
 haveI f1:=Sn
 haveI f2:=So
 unfold Builtin.«object.__getattribute__»
 repeat (any_goals (first | assumption | (with_reducible refine wpAny_loadPart_at hx ?_;first | rw[hc] | rw[hdx] | rw[hdat];dsimp only) | (with_reducible refine wpAny_nsGet hns ?_;rw[hv]) | wp_step))
 rw[hdx]
 repeat (any_goals (first | assumption | (with_reducible refine wpAny_nsGet hns ?_;rw[hv]) | wp_step))
theorem Kk{o:Obj}{fd:FuncData}{expr:Bool}{Q:Value->Shared->Prop}(hx:h.get? x=some o)(hc:o.cls=.type "function")(hdat:o.data=.func fd)(hdx:o.dict=some dx)(hns:h.Ns dx mA)
  (hB:typeLookup (.type "function") name=pure none) (hv:mA name=some v) (hh:handedOut v=pure v) (hq:Q v ⟨h,g,d,t + 1,os⟩):wpAny (model prog w) A (getAttr (.ref x) name expr) Q E ⟨h,g,d,t,os⟩:=by
 haveI hT:(⟨h,g,d,t,os⟩:Shared).TypeIs (.ref x) "function" :=⟨o,hx,hc⟩
 haveI hT1:(⟨h,g,d,t + 1,os⟩:Shared).TypeIs (.ref x) "function" :=⟨o,hx,hc⟩
 haveI f1:=slot_fn_ga.lookup
 haveI f2:=Va
 haveI f4:=slot_fn_ga.bind (.ref x)
 cases expr
 all_goals (
  repeat (any_goals (first | assumption | (refine(if_neg (show ¬ (true && onTheHeap (Value.builtin "object.__getattribute__"))=true by decide)).mpr ?_) | wp_step))
  refine codeAny_call_builtin slot_fn_ga.plain L2 (slot_fn_ga.check _ _ _ _ _ _ _ _ hT1 (J2 _ _) (Sq hx hc hdat hdx hns hB hv ?_))
  repeat (any_goals (first | assumption | wp_step)))
theorem Nf{o:Obj}{fd:FuncData}{pl:Sem Bool}{Q:Value × List Value->Shared->Prop}(hx:h.get? x=some o)(hc:o.cls=.type "function")(hdat:o.data=.func fd)(hdx:o.dict=some dx)(hns:h.Ns dx mA)
  (hB:typeLookup (.type "function") name=pure none) (hv:mA name=some v) (hh:handedOut v=pure v) (hq:Q (v,[]) ⟨h,g,d,t + 1,os⟩):wpAny (model prog w) A (getMethod (.ref x) name pl) Q E ⟨h,g,d,t,os⟩:=by
 haveI hT:∀ t',(⟨h,g,d,t',os⟩:Shared).TypeIs (.ref x) "function" :=fun _=>⟨o,hx,hc⟩
 unfold getMethod;refine wpAny_bind (wpAny_specialOf (hT t) slot_fn_ga.lookup ?_);dsimp only;rw[if_neg (by rw[F.canon_object_ga];decide)];refine wpAny_bind (wpAny_specialOf (hT t) Va ?_);refine wpAny_bind (wpAny_specialOf (hT t) hB ?_);dsimp only;exact wpAny_bind (wpAny_mono (Kk hx hc hdat hdx hns hB hv hh hq) (fun _ _ z=>wpAny_pure z) fun _ _ z=>z)
end
section
variable{prog:Program}{w:World}{A:Around}{E:Value->Shared->Prop}{h:Heap}{g:Array GenState}{d:Drawn}{t:Nat}{os:OsState}
variable{nm q:Str}{C N x:Addr}{bs:List Value}{sn:List Str}{sub:List Value}{ab:Bool}{col:Option Bool}{dd:Option Addr}{k0 k1 k2 k3 k5:Option Value}{newId:String}
 {mN mA:Str->Option Value} {name:Str} {v:Value}
theorem Nb:typeLookup (.type "function") "__set__" =pure none:=by rw[typeLookup_type,builtinLookup_eq_fast];kernel_rfl
theorem Rq:typeLookup (.type "function") "__delete__" =pure none:=by rw[typeLookup_type,builtinLookup_eq_fast];kernel_rfl
set_option tactic.hygienic true in
theorem Qt{tk:Tok}{f:Addr}{of:Obj}{y:Option Value}{Q:Fin->Shared->Prop}
  (hC:h.get? C=some (excClassObj nm q C N bs [.type "object"] true sn sub ab col dd k0 k1 k2 k3 k5 newId)) (hn:h.Ns N mN) (hnh:mN "__getattr__" =none)
  (hf:mN name=some (.ref f)) (hfo:h.get? f=some of) (hfc:of.cls=.type "function") (hnc:(["__module__", "__name__", "__qualname__", "__doc__", "__annotations__"]:List Str).contains name=false)
  (hB:typeLookup (.type "object") name=pure y) (I:h.Inst x C mA) (hsh:mA name=none) (hq:Q (.done (.ret (.ref h.objs.size))) ⟨h.push (methodObj (.ref f) (.ref x)),g,d,t,os⟩):
  wpAny (model prog w) A (Builtin.«proto.getattr_hooked» ⟨[.ref x,.str name tk],[]⟩) Q E ⟨h,g,d,t,os⟩:=by
 obtain⟨o,hx,hc,hno,hd⟩:=I
 haveI hlk:=F.ks_slot_function_get.lookup
 haveI hTf:(⟨h,g,d,t,os⟩:Shared).TypeIs (.ref f) "function" :=⟨_,hfo,hfc⟩
 unfold Builtin.«proto.getattr_hooked»
 repeat (first | (with_reducible refine wpAny_loadPart_at hx ?_;rw[hc]) | (with_reducible refine wpAny_typeLookup_exc hC hn F.mro_object hB ?_;rw[hf]) | (with_reducible refine wpAny_typeOf (T:= "function") hTf ?_) | rw[Nb] | rw[Rq] | wp_step)
 split
 ·rename_i c hcd;exact absurd hcd (hno c)
 delta instanceDict
 repeat (first | (with_reducible refine wpAny_loadPart_at hx ?_;rw[hc]) | with_reducible refine wpAny_loadPart_at hC ?_ | wp_step)
 rcases hd with⟨hdn,_⟩ | ⟨dx,hdx,_,hns⟩
 ·rw[hdn]
  repeat (first | wp_step)
  rw[if_neg (by rw[hnc];decide)]
  repeat (first | (with_reducible refine wpAny_typeLookup_exc hC hn F.mro_object F.lk_object_getattr ?_;rw[hnh]) | wp_step)
  refine fn_get (K:=[(f,of)]) (fun a o e=>?_) (by delta typeIn;simp[List.lookup,hfc]) ?_
  ·simp only[List.lookup] at e;split at e
   ·rename_i hb;cases e;rw[beq_iff_eq.mp hb];exact hfo
   ·exact nsE e
  ·exact wpAny_pure hq
 ·rw[hdx]
  repeat (first | (with_reducible refine wpAny_nsGet hns.ns ?_;rw[hsh]) | wp_step)
  rw[if_neg (by rw[hnc];decide)]
  repeat (first | (with_reducible refine wpAny_typeLookup_exc hC hn F.mro_object F.lk_object_getattr ?_;rw[hnh]) | wp_step)
  refine fn_get (K:=[(f,of)]) (fun a o e=>?_) (by delta typeIn;simp[List.lookup,hfc]) ?_
  ·simp only[List.lookup] at e;split at e
   ·rename_i hb;cases e;rw[beq_iff_eq.mp hb];exact hfo
   ·exact nsE e
  ·exact wpAny_pure hq
theorem Ph{expr:Bool}{f:Addr}{of:Obj}{y:Option Value}{Q:Value->Shared->Prop}
  (hC:h.get? C=some (excClassObj nm q C N bs [.type "object"] true sn sub ab col dd k0 k1 k2 k3 k5 newId)) (hn:h.Ns N mN) (hng:mN "__getattribute__" =none) (hnh:mN "__getattr__" =none)
  (hf:mN name=some (.ref f)) (hfo:h.get? f=some of) (hfc:of.cls=.type "function") (hnc:(["__module__", "__name__", "__qualname__", "__doc__", "__annotations__"]:List Str).contains name=false)
  (hB:typeLookup (.type "object") name=pure y) (I:h.Inst x C mA) (hsh:mA name=none) (hq:Q (.ref h.objs.size) ⟨h.push (methodObj (.ref f) (.ref x)),g,d,t + 1,os⟩):
  wpAny (model prog w) A (getAttr (.ref x) name expr) Q E ⟨h,g,d,t,os⟩:=by
 obtain⟨o,hx,hc,_⟩:=id I
 delta getAttr getAttrBy
 repeat (first | (with_reducible refine wpAny_loadPart_at hx ?_;rw[hc]) | (with_reducible refine wpAny_typeLookup_exc hC hn F.mro_object F.lk_object_ga ?_;rw[hng]) | wp_step)
 refine wpAny_onRaise (wpAny_runValue (codeAny_builtin F.plainObj_entry_getattr_hooked (Qt hC hn hnh hf hfo hfc hnc hB I hsh ?_)));show wpAny _ _ (handedOut (.ref h.objs.size)) _ _ _;rw[handedOut_of rfl];exact wpAny_pure hq
end
theorem slot_ci_next:Slot "callable_iterator" "__next__" "callable_iterator.__next__" :=
 .of (owner:= "callable_iterator") (n:= "__next__") (by rw[typeLookup_type,builtinLookup_eq_fast];kernel_rfl) (by decide +kernel) (by decide +kernel) (by decide +kernel)
  (by first | exact .inl (by decide +kernel) | exact .inr (by decide +kernel)) (by rw[isSubtype_type];kernel_rfl)
theorem Vp:Slot "callable_iterator" "__iter__" "callable_iterator.__iter__" :=
 .of (owner:= "callable_iterator") (n:= "__iter__") (by rw[typeLookup_type,builtinLookup_eq_fast];kernel_rfl) (by decide +kernel) (by decide +kernel) (by decide +kernel)
  (by first | exact .inl (by decide +kernel) | exact .inr (by decide +kernel)) (by rw[isSubtype_type];kernel_rfl)
theorem Vb:entryFor table "callable_iterator.__next__" =some Builtin.«callable_iterator.__next__»:=entryFor_of_tree (by kernel_rfl)
theorem Sr:entryFor table "callable_iterator.__iter__" =some Builtin.«dict_keyiterator.__iter__»:=
 entryFor_alias (id':= "dict_keyiterator.__iter__") (by kernel_rfl) rfl (by decide +kernel) (by kernel_rfl)
theorem Ud(a:Value):argsOk "callable_iterator.__next__" ⟨[a],[]⟩:=by delta argsOk;kernel_rfl
theorem Rw(a:Value):argsOk "callable_iterator.__iter__" ⟨[a],[]⟩:=by delta argsOk;kernel_rfl
theorem S5:typeLookup (.type "method") "__call__" =pure (some (.builtin "method.__call__")):=by rw[typeLookup_type,builtinLookup_eq_fast];kernel_rfl
theorem Nc:builtinKind "iter" =none:=by decide +kernel
theorem Pb:plainId "iter" =true:=by decide +kernel
theorem Pq:entryFor table "iter" =some Builtin.«iter»:=entryFor_of_tree (by kernel_rfl)
theorem Pz(a b:Value):argsOk "iter" ⟨[a,b],[]⟩:=by delta argsOk;kernel_rfl
noncomputable def S8(a b:Value)(e:Bool):Obj:={cls:=.type "callable_iterator",data:=.fields #[a,b,.bool e]}
noncomputable def Xp(b:Addr)(o:Obj):Prop:=∃ t,o=S8 (.ref b) (.str "" t) false
noncomputable def U4(o:Obj):Prop:=o=S8 .none .none true
section
variable{X:Cx}{B B':St}{Z Z':ZM}{s s':Shared}{P:V->St->Prop}
theorem EV.attrB{value:PySem.Expr}{Zv:Str}{pos:Pos}(C N:Addr)(mN:Str->Option Value)(f:Addr)(hc:ClsX X C N mN)
  (hg:mN "__getattribute__" =Option.none) (hnh:mN "__getattr__" =Option.none) (hf:mN Zv=some (.ref f)) {of:Obj} (hfo:X.base.get? f=some of) (hfc:of.cls=.type "function") {y:Option Value} (hB:typeLookup (.type "object") Zv=pure y)
  (hnc:(["__module__", "__name__", "__qualname__", "__doc__", "__annotations__"]:List Str).contains Zv=false)
  (h:EV X value B fun d B1=>∃ x dx l,d=.ref x /\ (x,Cell.raw (·=instObj C dx)) ∈ B1.mem /\ (dx,Cell.ns l) ∈ B1.mem /\ Zv ∉ l.map (·.1) /\ ∀ b,P (.ref b) {B1 with mem:=B1.mem++[(b,.raw (·=methodObj (.ref f) (.ref x)))]})
  (he:∀ env,eval (.Attribute value Zv pos) env=(do
   let o <- eval value env
   standAt pos.atName
   let r <- holding [o] (getAttr o Zv true)
   letTemporaryGo value o r
   pure r):=by intro _;with_unfolding_all rfl):EV X (.Attribute value Zv pos) B P:=fun Z s r=>
 Attribute_any_ (J.use h r fun Z1 s1 B1 d v x1 r1 h1=>by
  obtain⟨x,dx,l,rfl,hx,hd,hm,hp⟩:=h1;cases r1;obtain⟨m,hI,ho,hn,hl,hout⟩:=x1.rel.inst hx hd (X4 x1.rel hx hd);obtain⟨⟨nm,q,bs,sn,sub,col,dd,k0,k1,k2,k3,k5,hC⟩,hN⟩:=hc.here x1.rel
  haveI hfo':=x1.rel.base hfo (by rw[hfc];intro e;exact(nomatch e))
  haveI s3:=x1.rel.sz3
  obtain⟨hh1,g1,d1,t1,os1⟩:=s1;refine Ph hC hN hg hnh hf hfo' hfc hnc hB hI (hout _ hm) ?_;refine Z7 (x1.trans (Ext.addMs x1.rel (new:=[(hh1.objs.size,.raw (·=methodObj (.ref f) (.ref x)))]) (tk:=t1 + 1) (fun b o e=>get?_push_of_some _ e) (by exact Wg) fun p hp'=>?_)) Yh (hp _);simp only[mem_cons,not_mem_nil,or_false] at hp';subst hp'
  exact⟨get?_none_of_le (le_refl _),⟨_,get?_push_size _ rfl,rfl⟩,s3⟩) (he _)
theorem CALL.iter2{b:Addr}{m:Value}{x:Value}(hm:(b,Cell.raw (·=methodObj m x)) ∈ B.mem)(h:∀ I,P (.ref I) {B with mem:=B.mem++[(I,.raw (Xp b))]}):CALL X (.builtin "iter") [.ref b,.str ""] B P:=fun Z s vs r hv=>by
 obtain⟨v1,v2,rfl,e1,t,e2⟩:=vs2 hv;cases e1;subst e2;obtain⟨o,ho,rfl⟩:=r.mem _ hm
 haveI s3:=r.sz3
 haveI fin:Post X (RV X) B Z s P (.ref s.heap.objs.size) {s with heap:=s.heap.push (S8 (.ref b) (.str "" t) false)}:=by
  refine Z7 (Ext.addMs r (new:=[(s.heap.objs.size,.raw (Xp b))]) (tk:=s.toks) (fun b o e=>get?_push_of_some _ e) (by exact Wg) fun p hp'=>?_) Yh (h _);simp only[mem_cons,not_mem_nil,or_false] at hp';subst hp';exact⟨get?_none_of_le (le_refl _),⟨_,get?_push_size _ rfl,t,rfl⟩,s3⟩
 obtain⟨hh,g,d,tk,os⟩:=s
 haveI hT:(⟨hh,g,d,tk,os⟩:Shared).TypeIs (.ref b) "method" :=⟨_,ho,rfl⟩
 haveI f1:=S5
 refine Calls.call_function_entry Nc Pb Pq (Pz _ _) ?_;unfold Builtin.«iter»;refine wpAny_bind (wpAny_of_eq (a:=[Value.ref b,Value.str "" t]) (by first | rfl | kernel_rfl) ?_);dsimp only;refine wpAny_bind (wpAny_specialOf hT f1 ?_);rw[if_neg (by decide)]
 repeat (any_goals (first | assumption | wp_step))
 exact⟨_,rfl,fin⟩
noncomputable def H4(X:Cx)(Z:ZM):Option V->Option Value->Prop
 | none,none=>True
 | some d,some v=>VRel X.prog X.w Z d v
 | _,_=>False
noncomputable def NEXT(X:Cx)(I:Addr)(B:St)(P:Option V->St->Prop):Prop:=J X (H4 X) (pyNext (.ref I)) B P
theorem Vf{M:Model}{A:Around}{E:Value->Shared->Prop}{s:Shared}{f:Value}{pos:List Value}{Q:Value->Shared->Prop}
  (hc:codeAny M A (.call f ⟨pos,[]⟩) (fun r s'=>match r with | .ok (.ret v)=>Q v s' | .ok _=>False | .error e=>E e s') s):wpAny M A (callBorrowed f pos) Q E s:=
 fun Γ p hΓ=>by
  haveI e:callBorrowed f pos=(call f pos []).keep [borrowed]:=by
   delta callBorrowed call runValue run
   congr 1
   funext x
   rcases x with e | (_ | _ | _ | _) <;> rfl
  rw[e,Sem.wp_keep];exact wpAny_call hc Γ p hΓ
theorem Q5{α:Type}{prog:Program}{w:World}{A ao:Around}{E:Value->Shared->Prop}{s:Shared}{Q:Option Value->Shared->Prop}(hh:A.handled=none)
  (hQ:∀ h',(∀ b o,s.heap.get? b=some o->h'.get? b=some o)->Q none {s with heap:=h'}):
  wpAny (model prog w) A (SmallTypes.stopIteration (α:=α)) (fun _ _=>False) (fun e s'=>wpAny (model prog w) ao (do if <- isInstance e (.type "StopIteration") then pure Option.none else throw e) Q E s') s:=by
 delta SmallTypes.stopIteration
 refine wpAny_bind ?_;simp only[newExc,newTuple];refine wpAny_bind (wpAny_newObj_type ?_ (by size_fits));refine wpAny_bind (m:=firstArgMember _ _) (wpAny_of_eq (a:=Value.none) (by first | rfl | (simp only[firstArgMember];rfl)) ?_);refine wpAny_newObj_type ?_ (by size_fits);refine wpAny_bind (wpAny_handled ?_);rw[hh];refine wpAny_bind (wpAny_pure (wpAny_throw ?_));refine wpAny_bind (wpAny_isInstance (T:= "StopIteration") (b:=true) ⟨_,get?_push_size _ rfl,rfl⟩ isSubtype_stop ?_);exact wpAny_pure (hQ _ fun b o e=>get?_push_of_some _ (get?_push_of_some _ e))
end
theorem V3{M:Model}{A:Around}{E:Value->Shared->Prop}{s:Shared}{Q:Bool->Shared->Prop}{b f:Addr}{x:Value}{of:Obj}{fd:FuncData}(hb:s.heap.get? b=some (methodObj (.ref f) x))(hf:s.heap.get? f=some of)(hd:of.data=.func fd)(h:Q true s):
  wpAny M A (borrowsExactly (.ref b)) Q E s:=by
 unfold borrowsExactly;refine wpAny_bind (wpAny_load hb ?_);refine wpAny_bind (wpAny_load hf ?_);rw[hd];exact wpAny_pure h
section
variable{X:Cx}{B B':St}{Z Z':ZM}{s s':Shared}{P:Option V->St->Prop}
theorem NEXT.call{I b f x:Addr}{k:Nat}{of:Obj}{fd:FuncData}(hA:Rm X.A (k + 1))(hI:(I,Cell.raw (Xp b)) ∈ B.mem)(hb:(b,Cell.raw (·=methodObj (.ref f) (.ref x))) ∈ B.mem)(hfo:X.base.get? f=some of)(hfd:of.data=.func fd)(hfc:of.cls ≠ .none)
  (h:∀ A',Rm A' k->CALLR (X.at A') (.ref f) [.ref x] B fun d B'=>∃ ch,d=.str ch /\ (I,Cell.raw (Xp b)) ∈ B'.mem /\ (b,Cell.raw (·=methodObj (.ref f) (.ref x))) ∈ B'.mem ∧
   (ch ≠ "" ->P (some (.str ch)) B') /\ (ch= "" ->∃ mem',UpM I (.raw U4) B'.mem mem' /\ P Option.none {B' with mem:=mem'})):NEXT X I B P:=fun Z s r=>by
 obtain⟨oI,hoI,t,rfl⟩:=r.mem _ hI;obtain⟨ob,hob,rfl⟩:=r.mem _ hb
 haveI hf:=r.base hfo hfc
 haveI hT:s.TypeIs (.ref I) "callable_iterator" :=⟨_,hoI,rfl⟩
 haveI hd:(S8 (.ref b) (.str "" t) false).data=.fields #[.ref b,.str "" t,.bool false]:=rfl
 unfold pyNext;refine wpAny_bind (wpAny_attempt (wpAny_callSpecial?_slot (name:= "__next__") hT slot_ci_next (wpAny_call_entry slot_ci_next hT Vb ?_ (Ud _))));show wpAny _ _ (field (.ref I) 2 >>= _) _ _ _;refine wpAny_bind (wpAny_field hoI hd (x:=.bool false) rfl ?_);rw[if_neg (by decide)];refine wpAny_bind (wpAny_field hoI hd (x:=.ref b) rfl ?_);refine wpAny_bind (wpAny_attempt ?_);unfold callOutOfASlot;refine wpAny_bind (V3 hob hf hfd ?_);rw[if_pos rfl];refine Vf (method_call hob ?_);refine h _ hA.in1 Z s [.ref x] _ r.at ⟨_,[],rfl,Yh,rfl⟩ fun v s1 ⟨Z1,B1,d,y,hr,hq⟩=>?_;obtain⟨ch,rfl,hI1,hb1,hne,heq⟩:=hq;obtain⟨t2,rfl⟩:=hr
 haveI x1:=y.unat
 obtain⟨oI1,hoI1,t1,rfl⟩:=x1.rel.mem _ hI1;obtain⟨ob1,hob1,rfl⟩:=x1.rel.mem _ hb1
 haveI hf1:=x1.rel.base hfo hfc
 haveI hd1:(S8 (.ref b) (.str "" t1) false).data=.fields #[.ref b,.str "" t1,.bool false]:=rfl
 refine wpAny_bind (wpAny_field hoI1 hd1 (x:=.bool false) rfl ?_);rw[if_neg (by decide)];refine wpAny_bind (wpAny_field hoI1 hd1 (x:=.str "" t1) rfl ?_);refine wpAny_bind (wpAny_holding (wpAny_eqBool_str ?_))
 by_cases hch:ch= ""
 ·subst hch;obtain⟨mem',hu,hp⟩:=heq rfl;rw[if_neg (by exact Bool.false_ne_true)];refine wpAny_bind (wpAny_rule ?_)
  show wpAny _ _ ((do
   slotLetsGo "callable_iterator.__next__" (<- field (.ref I) 0) _
   setField (.ref I) 0 .none;setField (.ref I) 1 .none;setField (.ref I) 2 (.bool true)) >>= _) _ _ _
  refine wpAny_bind (wpAny_bind (wpAny_field hoI1 hd1 (x:=.ref b) rfl ?_));refine wpAny_bind ?_;unfold slotLetsGo;refine wpAny_bind (V3 hob1 hf1 hfd ?_);rw[if_pos rfl];refine wpAny_pure ?_;refine wpAny_bind (wpAny_setField hoI1 rfl (by exact succ_pos _) ?_)
  haveI g1:=get?_update_self (Obj.mapFields (·.setIfInBounds 0 .none)) hoI1 rfl
  refine wpAny_bind (wpAny_setField g1 rfl (by exact le_add_right ..) ?_)
  haveI g2:=get?_update_self (Obj.mapFields (·.setIfInBounds 1 .none)) g1 rfl
  refine wpAny_setField g2 rfl (by exact le_refl _) ?_
  haveI g3:=get?_update_self (Obj.mapFields (·.setIfInBounds 2 (.bool true))) g2 rfl
  refine wpAny_mono (Q5 (A:=X.A.in1) (ao:=X.A) (Q:=fun o s'=>Post X (H4 X) B Z s P o s') (by show X.A.handled=_;exact hA.handled) fun h' hk=>?_) (fun _ _ z=>z.elim) fun _ _ z=>z;refine here (b:=(none:Option V)) (x1.trans (x1.rel.setMemK (tk:=s1.toks) hu (fun b o hbI e=>?_) ⟨_,hk _ _ g3,rfl⟩)) trivial hp;refine hk _ _ ?_;rw[get?_update_other _ _ (Ne.symm hbI),get?_update_other _ _ (Ne.symm hbI),get?_update_other _ _ (Ne.symm hbI)];exact e
 ·rw[if_pos (by simp[Ne.symm hch])];refine wpAny_pure ⟨_,rfl,wpAny_pure (here (b:=some (V.str ch)) x1 (show VRel _ _ _ _ _ from Xi) (hne hch))⟩
theorem NEXT.ended{I:Addr}(hA:X.A.handled=Option.none)(hI:(I,Cell.raw U4) ∈ B.mem)(h:P Option.none B):NEXT X I B P:=fun Z s r=>by
 obtain⟨oI,hoI,rfl⟩:=r.mem _ hI
 haveI hT:s.TypeIs (.ref I) "callable_iterator" :=⟨_,hoI,rfl⟩
 haveI hd:(S8 .none .none true).data=.fields #[.none,.none,.bool true]:=rfl
 unfold pyNext;refine wpAny_bind (wpAny_attempt (wpAny_callSpecial?_slot (name:= "__next__") hT slot_ci_next (wpAny_call_entry slot_ci_next hT Vb ?_ (Ud _))));show wpAny _ _ (field (.ref I) 2 >>= _) _ _ _;refine wpAny_bind (wpAny_field hoI hd (x:=.bool true) rfl ?_);rw[if_pos (by decide)];refine wpAny_bind (wpAny_rule ?_);refine wpAny_bind (wpAny_mono (Q5 (A:=X.A.in1) (ao:=X.A) (Q:=fun o s'=>Post X (H4 X) B Z s P o s') (by show X.A.handled=_;exact hA) fun h' hk=>?_) (fun _ _ z=>False.elim z) fun _ _ z=>z);exact here (b:=(none:Option V)) (Ext.keepAll (tk:=s.toks) r hk) trivial h
end
noncomputable def ItCell(I:Addr)(B:St):Prop:=(∃ b,(I,Cell.raw (Xp b)) ∈ B.mem) \/ (I,Cell.raw U4) ∈ B.mem
section
variable{X:Cx}{target:PySem.Expr}{B B':St}{Z Z':ZM}{s s':Shared}{P:V->St->Prop}
theorem ItCell.obj{I:Addr}(h:ItCell I B)(r:Rel X B Z s):∃ a b e,s.heap.get? I=some (S8 a b e):=by
 rcases h with⟨b,h⟩ | h
 ·obtain⟨o,ho,t,rfl⟩:=r.mem _ h;exact⟨_,_,_,ho⟩
 ·obtain⟨o,ho,rfl⟩:=r.mem _ h;exact⟨_,_,_,ho⟩
inductive FORI(X:Cx)(target:PySem.Expr)(body:List Stmt)(Q:Fl->St->Prop)(d:V)(B1:St):Prop
 | mk (I:Addr) (hd:d=.ref I) (hI:ItCell I B1) (Inv:Nat->St->Prop) (inv0:∃ n,Inv n B1)
  (turn:∀ n B2,Inv n B2->NEXT X I B2 fun od B3=>ItCell I B3 /\ match od with
    | Option.none=>Q .next B3
    | some d=>AS X target d B3 fun B4=>EXK X body B4 (fun B5=>∃ m,m < n /\ Inv m B5) Q)
inductive FIJ(X:Cx)(B1:St)(Z1:ZM)(s1:Shared)(Inv:Nat->St->Prop)(n:Nat)(s':Shared):Prop
 | mk (B':St) (Z':ZM) (x:Ext X B1 Z1 s1 B' Z' s') (inv:Inv n B')
theorem ES.forI{iter body pos}{Q:Fl->St->Prop}
  (h:EV X iter B (FORI X target body Q))
  (hs:∀ env x,foldedSetIterable iter env x=pure x:=by intro _ _;rfl):ES X (.For target iter body [] pos) B Q:=fun Z s r=>by
 refine wpAny_For (J.use h r fun Z1 s1 B1 d v x1 r1 h1=>?_) (hs _);obtain⟨I,rfl,hI,Inv,⟨n0,inv0⟩,turn⟩:=h1;cases r1;obtain⟨a,b,e,hob⟩:=hI.obj x1.rel
 haveI hT:s1.TypeIs (.ref I) "callable_iterator" :=⟨_,hob,rfl⟩
 refine wpAny_pyIter_slot hT Vp (wpAny_call_entry Vp hT Sr ?_ (Rw _));refine wpAny_pure ⟨_,rfl, "callable_iterator",_,hT,slot_ci_next.lookup,?_⟩;refine Qk (FIJ X B1 Z1 s1 Inv) (fun n s' hj=>?_) n0 ⟨B1,Z1,Ext.refl x1.rel,inv0⟩;obtain⟨B',Z',x,inv⟩:=hj;refine wpAny_mono (turn n B' inv Z' s' x.rel) (fun ov s2 q=>?_) fun _ _ h=>h.elim;obtain⟨Z2,B2,od,x2,hr,hI2,hq⟩:=q;cases od with
 | none=>
  cases ov with
  | none=>exact here (x1.trans (x.trans x2)) Zz hq
  | some v=>exact hr.elim
 | some d=>
  cases ov with
  | none=>exact hr.elim
  | some v=>
   obtain⟨a,b,e,hob2⟩:=hI2.obj x2.rel;refine X7 hob2 (fun n e=>by cases e;decide) ?_;refine wpAny_mono (hq Z2 _ v x2.rel hr) (fun _ s4 q=>?_) fun _ _ h=>h.elim;obtain⟨Z4,B4,_,x4,_,h4⟩:=q;refine wpAny_mono (h4.use Z4 s4 x4.rel) (fun f s5 q=>?_) fun _ _ h=>h.elim;obtain⟨Z5,B5,f',x5,hf,h5⟩:=q
   haveI xx:=((x.trans x2).trans x4).trans x5
   exact Post.flow (Y:=X) (K:=Q) (I:=fun B5=>∃ m,m < n /\ Inv m B5) (fun hf h=>here (x1.trans xx) hf h) hf (fun h=>by obtain⟨m,hm,hi⟩:=h;exact⟨m,hm,B5,Z5,xx,hi⟩) h5
theorem EV.methF{o:PySem.Expr}{name:Str}{apos pos:Pos}{args:List PySem.Expr}(hB:typeLookup (.type "function") name=pure Option.none)
  (h:EV X o B fun d B1=>∃ x ob fd dx R,d=.ref x /\ (x,Cell.raw (·=ob)) ∈ B1.mem /\ ob.cls=.type "function" /\ ob.data=.func fd /\ ob.dict=some dx /\ (dx,Cell.ns [(name,.ref R)]) ∈ B1.mem ∧
   EVs X pos args B1 fun ds B2=>Keep X B2 (.ref R) /\ CALL X (.ref R) ds B2 P)
  (hbase:∀ env,attributeBase o name env (eval o env)=eval o env:=by intro _;rfl)
  (hfew:∀ env,((backTo pos (starEach args env)).all (fun x=>!x.1) && (backToKw pos (keywordEach [] env)).all (fun x=>x.1.isSome)
   && decide (args.length + ([]:List Keyword).length + (if ([]:List Keyword).isEmpty then 0 else 1) < 30))=true:=by intro _;rfl)
  (hline:(apos.endLine == pos.line)=true:=by rfl) (hp:∀ env,(starEach args env).any (·.1)=false:=by intro _;rfl):EV X (.Call (.Attribute o name apos) args [] pos) B P:=fun Z s r=>by
 rw[arm_eval_Call,hbase];refine wpAny_bind (J.use h r fun Z1 s1 B1 d v x1 r1 h1=>?_);obtain⟨x,ob,fd,dx,R,rfl,hx,hcl,hdat,hdic,hd,h2⟩:=h1;cases r1;obtain⟨ob',hob,rfl⟩:=x1.rel.mem _ hx;obtain⟨m,hns,hl,_⟩:=x1.rel.mem _ hd;obtain⟨v,hv,hvr⟩:=hl _ _ (mem_singleton.mpr rfl);cases hvr
 haveI hcc:∀ tk,wpAny (model X.prog X.w) X.A (callWith pos (.ref R) [] (backTo pos (starEach args X.env)) []) (Post X (RV X) B Z s P) Zm {s1 with toks:=tk}:=fun tk=>by
  refine Ye (Yg (hp _)) (J.use h2 x1.rel.toks fun Z2 s2 B2 ds vs x2 r2 h3=>?_);refine⟨fun Q hQ=>h3.1 Z2 s2 Q x2.rel hQ,?_⟩
  haveI x12:Ext X B Z s B2 Z2 s2:=(x1.toks).trans x2
  exact wpAny_mono (h3.2 Z2 s2 vs x2.rel r2) (fun _ _ q=>q.lift x12) fun _ _ h=>h
 refine wpAny_bind (wpAny_standAt ?_)
 haveI hform:methodCallForm (args.length + ([]:List Keyword).length) (backTo pos (starEach args X.env)) (backToKw pos (keywordEach [] X.env))=true:=hfew _
 haveI hpos:methodCallPos true o X.env apos pos=pure pos:=by unfold methodCallPos;exact if_pos (by assumption)
 obtain⟨hh1,g1,d1,t1,os1⟩:=s1;unfold methodCall;rw[hform];refine wpAny_bind (wpAny_holding (Nf hob hcl hdat hdic hns.ns hB hv (handedOut_of rfl) ?_));exact wpAny_bind (wpAny_of_eq hpos (hcc _))
end
noncomputable def Mo(fd:FuncData)(L a:Addr):Env:=newEnv fd.scope L fd.globals fd.closure (fd.qualname++ ".<locals>.") (some a) fd.code none fd.builtins
noncomputable def Cx.lam(X:Cx)(fd:FuncData)(L a:Addr):Cx:={X with A:=X.A.deeper (Mo fd L a),env:=Mo fd L a,own:=[]}
section
variable{X:Cx}{B B':St}{Z Z':ZM}{s s':Shared}{P:V->St->Prop}
theorem Keep.mem{a o fd}(hm:(a,Cell.raw (·=o)) ∈ B.mem)(hd:o.data=.func fd):Keep X B (.ref a):=Keep.funcZ (o:=o) (fun Z s r=>by obtain⟨o',ho,rfl⟩:=r.mem _ hm;exact ho) hd
theorem CALLR.lam{a c':Addr}{o:Obj}{fd:FuncData}{body:PySem.Expr}{k:Nat}{ps:List Str}{ds:List V}
  (hA:Rm X.A (k + 1)) (hlim:X.base.NoLimit) (hR:(a,Cell.raw (·=o)) ∈ B.mem) (hd:o.data=.func fd) (hbody:fd.body=.expr body) (hcode:fd.code=.ref c') (hcm:(c',Cell.raw (Ur fd.qualname)) ∈ B.mem)
  (hbind:∀ vs:List Value,vs.length=ds.length->bindArgs fd ⟨vs,[]⟩=pure (ps.zip vs)) (hlen:ps.length=ds.length)
  (hnc:∀ x ∈ fd.scope.names,x.2 ≠ .cell) (hpk:∀ x ∈ ps,fd.scope.names.lookup x=some .local)
  (h:∀ L,EV (X.lam fd L a) body ⟨[],[],[],B.mem⟩ fun d B'=>P d {B with mem:=B'.mem})
  (hco:fd.scope.isCoroutine=false:=by rfl) (hgen:fd.scope.isGenerator=false:=by rfl) (hk:fd.scope.kind=.function:=by rfl):CALLR X (.ref a) ds B P:=fun Z s vs R r hvs hR'=>by
 obtain⟨o',ho,rfl⟩:=r.mem _ hR;obtain⟨oc,hoc,cvs,ct,hcd,hcv⟩:=r.mem _ hcm;have hvl:ps.length=vs.length:=by rw[hlen,hvs.length]
 have hzn:((ps.zip vs).map (·.1))=ps:=map_fst_zip (le_of_eq hvl);refine kla_callFunE hA.room ho hd hco hgen hbody ⟨c',oc,cvs,ct,hcode,hoc,hcd,hcv⟩ ?_;rw[hbind vs hvs.length];refine wpAny_pure (wpAny_newFunctionEnv hnc (fun x hx=>?_) (fun h₁ hns hsb=>?_) hk)
 ·have:x.1 ∈ ps:=by rw[<- hzn];exact mem_map_of_mem hx
  exact hpk _ this
 ·generalize hL:s.heap.objs.size=L at *;have ltL:∀ b o,s.heap.get? b=some o->b < L:=fun b o e=>hL ▸ lt_size e;have hk₁:∀ b o,s.heap.get? b=some o->h₁.get? b=some o:=fun b o e=>(hsb.2 b (ne_of_lt (ltL _ _ e))).trans (get?_push_of_some _ e)
  have Zt:∀ b,L ≤ b->s.heap.get? b=none:=fun b hb=>by
   refine Zb fun o' e=>?_;exact absurd (ltL _ _ e) (not_lt.mpr hb)
  have fsub:∀ b ∈ keys B.mem,b ∈ Z0 X B:=fun b hb=>mem_cons_of_mem _ (mem_append_right _ hb)
  have ftc:∀ b ∈ Z0 (X.lam fd L a) ⟨[],[],[],B.mem⟩,b ∈ keys B.mem \/ b=L:=fun b hb=>by
   rcases mem_cons.mp hb with e0 | hb
   ·exact .inr e0
   ·rcases mem_append.mp hb with hb | hb
    ·exact mnE hb
    ·exact .inl hb
  have r₁:Rel (X.lam fd L a) ⟨[],[],[],B.mem⟩ Z {s with heap:=h₁,toks:=s.toks + (ps.zip vs).length}:=by
   refine⟨⟨nodup_nil,(fun p hp=>by exact mnE hp),(fun p hp=>by exact mnE hp),nodup_nil,(fun _ _ _ h=>by exact mnE h),(fun p hp=>by exact mnE hp),(fun x hx=>by simp at hx),hk⟩,fun b o e=>hk₁ _ _ (r.zin b o e),r.st,r.ztab,r.old.step_keeps hk₁,r.os,r.gens,
    ⟨_,hns,fun x ov hx=>by exact mnE hx⟩,(fun x ov hx=>by exact mnE hx),(fun _ _ h=>by exact mnE h),(fun c hc=>by exact mnE hc),fun p hp=>(r.mem p hp).mono (fun _ _ e=>e) fun o e=>hk₁ _ _ e,?_,?_,?_,?_,r.g3,fun b hb=>r.low b hb⟩
   ·show(L::([]++keys B.mem)).Nodup;refine nodup_cons.mpr ⟨fun hm=>?_,?_⟩
    ·obtain⟨o',ho'⟩:=r.ex _ (fsub _ (by simpa using hm));exact lt_irrefl _ (ltL _ _ ho')
    ·have nd:=r.nd;unfold Z0 at nd;exact(nodup_append.mp (nodup_cons.mp nd).2).2.1
   ·intro b hb;rcases ftc b hb with hb | hb
    ·exact r.zfoot b (fsub _ hb)
    ·refine Zb fun o' e=>?_;have:=r.zin _ _ e;rw[Zt b (le_of_eq hb.symm)] at this;exact nsE this
   ·intro b hb;rcases ftc b hb with hb | hb
    ·exact r.bfoot b (fsub _ hb)
    ·cases e:X.base.get? b with
     | none=>exact e
     | some o'=>obtain⟨o2,h2⟩:=r.old.there _ _ e;rw[Zt b (le_of_eq hb.symm)] at h2;exact nsE h2
   ·intro b hb;rcases ftc b hb with hb | hb
    ·obtain⟨o',ho'⟩:=r.ex b (fsub _ hb);exact⟨o',hk₁ _ _ ho'⟩
    ·obtain⟨o',_,_,ho',_⟩:=hns;exact⟨o',by rw[hb];exact ho'⟩
  have hnl:Heap.NoLimit h₁:=by
   obtain⟨mc,hn,e⟩:=r.nolim hlim;exact⟨mc,hn.at' fun o e=>hk₁ _ _ e,e⟩
  refine⟨hnl,kla_codeExpr ?_⟩;refine wpAny_mono (h L Z _ r₁) (fun f s' q=>?_) fun _ _ h=>h.elim;obtain⟨Z',B',f',x,hf,hP⟩:=q
  obtain⟨x2,hS⟩:=Ext.leave (X:=X) (sub:=B.mem) (rest:=[]) (A':=(X.lam fd L a).A) (env':=(X.lam fd L a).env) (own':=[]) r (by exact(append_nil _).symm) hk₁ (fun _ _ h=>h) (fun a o h=>.inl h) (fun b hb=>by
   rcases ftc b hb with hb | hb
   ·exact .inl hb
   ·exact .inr (Zt b (le_of_eq hb.symm))) x
  refine hR' _ _ (here x2 (VRel.out hS hf) (by simpa using hP))
noncomputable def GA(X:Cx)(Zv:Str)(x:Addr)(B:St)(P:V->St->Prop):Prop:=J X (RV X) (getAttr (.ref x) Zv true) B P
theorem GA.inst{Zv:Str}(C N:Addr)(mN:Str->Option Value)(hc:ClsX X C N mN)
  (hg:mN "__getattribute__" =Option.none) (hna:mN Zv=Option.none) (hB:typeLookup (.type "object") Zv=pure Option.none) {x dx:Addr} {l} {d':V}
  (hx:(x,Cell.raw (·=instObj C dx)) ∈ B.mem) (hd:(dx,Cell.ns l) ∈ B.mem) (hm:(Zv,d') ∈ l) (hh:∀ Z v,VRel X.prog X.w Z d' v->handedOut v=pure v) (hp:P d' B):GA X Zv x B P:=fun Z s r=>by
 obtain⟨m,hI,ho,hn,hl,_⟩:=r.inst hx hd (X4 r hx hd);obtain⟨v,hv,hvr⟩:=hl _ _ hm;obtain⟨⟨nm,q,bs,sn,sub,col,dd,k0,k1,k2,k3,k5,hC⟩,hN⟩:=hc.here r;obtain⟨hh1,g1,d1,t1,os1⟩:=s;exact load_attr hC hN hg hna hB hI hv (hh _ _ hvr) (Z7 (Ext.refl r).toks hvr hp)
theorem ES.augAttr{o value:PySem.Expr}{Zv:Str}{tpos pos:Pos}{op:Operator}{Q:Fl->St->Prop}
  (h:EV X o B fun od B1=>∃ x,od=.ref x /\ GA X Zv x B1 fun old B2=>EV X value B2 fun d B3=>INP X op old d B3 fun r B4=>SETA X Zv x r B4 (Q .next)):ES X (.AugAssign (.Attribute o Zv tpos) op value pos) B Q:=fun Z s r=>
 wpAny_AugAssign_AttributeAny (J.use h r fun Z1 s1 B1 d1 v1 x1 r1 h1=>by
  obtain⟨x,rfl,h2⟩:=h1;cases r1;refine J.use h2 x1.rel fun Z2 s2 B2 d2 v2 x2 r2 h2=>J.use h2 x2.rel fun Z3 s3 B3 d3 v3 x3 r3 h3=>?_;refine Ve (h3 Z3 s3 v2 v3 x3.rel (r2.mono x3.le) r3) (fun Z4 s4 B4 d4 v4 x4 r4 h4=>?_);refine Ve (h4 Z4 s4 v4 x4.rel r4) (fun Z5 s5 B5 b _ x5 _ h5=>?_)
  exact here ((((x1.trans x2).trans x3).trans x4).trans x5) Zz h5)
theorem SUB.sliceLM{l:List V}{lo hi st:Option Int}(hs:l.length ≤ sizeLine)(h0:st ≠ some 0)(h:∀ a,P (.ref a) {B with mem:=B.mem++[(a,.list (X3 l lo hi st))]}):SUB X (.list l) (.slc lo hi st) B P:=fun Z s v1 v2 r h1 h2=>by
 obtain⟨a,its,n,rfl,ha,hr⟩:=h1;obtain⟨b,lv,uv,sv,rfl,hb,p1,p2,p3⟩:=h2
 haveI pl:=(r.plist ha).isList
 refine⟨⟨_,_,⟨_,r.zin _ _ ha,rfl⟩,slot_list_getitem.lookup⟩,?_⟩;refine wpAny_getItem_list_slice pl ⟨_,r.zin _ _ hb,rfl,rfl⟩ p1 p2 p3 h0 ?_ (by rw[hr.length'];exact hs)
 haveI q:VsRel X.prog X.w Z (X3 l lo hi st) (slicePick its lo hi st).toList:=by
  delta slicePick X3
  rw[hr.length']
  simpa using hr.pick (sliceRange (sliceBounds lo hi st l.length).1 (sliceBounds lo hi st l.length).2.1 (sliceBounds lo hi st l.length).2.2)
 haveI s3:=r.sz3
 refine Z7 (Ext.addMs r (tk:=s.toks) (new:=[(s.heap.objs.size,.list (X3 l lo hi st))]) (fun b o e=>get?_push_of_some _ e) (by simp[keys]) fun p hp=>?_) Yh (h _);simp only[mem_cons,not_mem_nil,or_false] at hp;subst hp;exact⟨get?_none_of_le (le_refl _),⟨slicePick its lo hi st,⟨_,get?_push_size _ rfl⟩,q⟩,s3⟩
theorem Xs{α β:Type}{f:α->Option β}{g:α->β}:∀ {ks:List α},(∀ k ∈ ks,f k=some (g k))->ks.filterMap f=ks.map g
 | [],_=>rfl
 | k::ks,h=>by rw[List.filterMap_cons_some (h k mem_cons_self),map_cons,Xs fun k hk=>h k (mem_cons_of_mem _ hk)]
theorem N5{l:List V}:X3 l none none (some (-1))=l.reverse:=by
 haveI e:sliceRange (sliceBounds none none (some (-1)) l.length).1 (sliceBounds none none (some (-1)) l.length).2.1 (sliceBounds none none (some (-1)) l.length).2.2=(List.range l.length).map fun k=>l.length - 1 - k:=by
  haveI e0:sliceBounds none none (some (-1)) l.length=((l.length:Int) - 1, -1, -1):=by rfl
  rw[e0]
  delta sliceRange
  dsimp only;rw[if_neg (by decide)]
  haveI ec:(if (l.length:Int) - 1 > -1 then ((l.length:Int) - 1 - (-1) - (-1) - 1) / (- -1) else 0).toNat=l.length:=by
   split
   ·haveI:((l.length:Int) - 1 - (-1) - (-1) - 1) / (- -1)=l.length:=by
     rw[show(- -1:Int)=1 by decide,Int.ediv_one,Int.sub_neg,Int.sub_neg,Int.add_sub_cancel,sub_add_cancel]
    rw[this];simp
   ·rename_i h;haveI:l.length=0:=Nat.eq_zero_of_not_pos fun q=>h (Int.sub_lt_sub_right (ofNat_lt.mpr q) 1);exact Eq.symm (by assumption)
  rw[ec];refine map_congr_left fun k hk=>?_
  haveI:=mem_range.mp hk
  rw[Int.neg_mul,one_mul,show(l.length:Int) - 1 + -(k:Int)=((l.length - 1 - k:Nat):Int) by rw[ofNat_sub (Nat.le_sub_one_of_lt this),ofNat_sub (Nat.one_le_of_lt this)];rfl,toNat_natCast]
 delta X3
 rw[e];refine ext_getElem? fun i=>?_
 haveI hall:((List.range l.length).map fun k=>l.length - 1 - k).filterMap (l[·]?)=(List.range l.length).map fun k=>l.getD (l.length - 1 - k) .none:=by
  rw[List.filterMap_map];refine Xs fun k hk=>?_
  haveI:=mem_range.mp hk
  simp only[Function.comp,getD_eq_getElem?_getD];rw[getElem?_eq_getElem (Te this)];rfl
 rw[hall]
 by_cases hi:i < l.length
 ·simp[hi,List.getElem?_reverse hi];rw[getElem?_eq_getElem (Te hi)];rfl
 ·simp[hi]
end
end Mine
end
section
open PySem PySem.Spec PySem.Calls PyProof.Rows PySem.W PySem.SeqAt
namespace Mine
section
variable{X:Cx}{B B':St}{Z Z':ZM}{s s':Shared}{P:V->St->Prop}
inductive LCS(X:Cx)(elt target:PySem.Expr)(scope:Scope)(P:V->St->Prop)(d:V)(B1:St):Prop
 | mk (locc celc:List (Str × Option V)) (capc:List (Str × V)) (its:List V) (F:Nat->V) (ms:Nat->List (Addr × Cell)) (hit:ITERC X target B1 d its) (hL:ScL B1.cel B1.cap scope.names locc celc capc) (hsz:its.length ≤ sizeLine) (h0:ms 0=B1.mem)
  (turn:∀ C D c i di,its[i]?=some di->AS (X.comp scope C) target di ⟨locc,celc,capc,ms i++[(D,c)]⟩ fun B2=>EV (X.comp scope C) elt B2 fun d B4=>d=F i /\ Back ⟨locc,celc,capc,[]⟩ (ms (i + 1)++[(D,c)]) B4)
  (fin:P (.list ((List.range its.length).map F)) {B1 with mem:=ms its.length})
theorem EV.lcs{elt target iter:PySem.Expr}{scope:Scope}{pos:Pos}(h:EV X iter B (LCS X elt target scope P))
  (hok:Zc scope.names=true) (hfk:Y3 scope.names (B.cel.map (·.1)) (B.cap.map (·.1))=true) (hk:scope.kind=.function) (hs:∀ x,foldedSetIterable iter X.env x=pure x):
  EV X (.ListComp elt [⟨target,iter,[],0⟩] scope pos) B P:=by
 refine EV.lcg (J.mono h fun d B1 h=>?_) (fun _ h=>nomatch h) hok hfk hk hs
 induction h with
 | mk locc celc capc its F ms hit hL hsz h0 turn hP=>
  refine .mk _ locc celc capc hit hL ms (fun i=>.list ((List.range i).map F)) h0 rfl (fun C D i di hi=>?_) ⟨rfl,hP⟩;refine AS.mono (turn C D _ i di hi) fun B2 h2=>TS.nil ?_;rw[if_pos rfl,range_succ,map_append];refine IN.one rfl ?_ h2;rw[length_map,length_range];exact le_trans (le_of_lt (List.getElem?_eq_some_iff.mp hi).1) hsz
end
theorem Li(X:Cx){a:Addr}{o:Obj}{fd:FuncData}{body:List Stmt}{k:Nat}{ps:List Str}{ds:List V}{loc cel:List (Str × Option V)}{sub:List (Addr × Cell)}{Z:ZM}{s:Shared}{vs:List Value}{R:Result->Shared->Prop}{Pf:Fl->St->Prop}
  (hA:Rm X.A (k + 1)) (hlim:s.heap.NoLimit) (ho:s.heap.get? a=some o) (hd:o.data=.func fd) (hbody:fd.body=.stmts body) (hclo:fd.closure=[]) (hcd:s.heap.CodeRec fd.code fd.qualname)
  (hbind:bindArgs fd ⟨vs,[]⟩=pure (ps.zip vs)) (hlen:ps.length=ds.length)
  (hok:W1 fd.scope.names ps (loc.map (·.1)) (cel.map (·.1))=true) (hl:Xy ps ds loc) (hcl:Xy ps ds cel)
  (zin:∀ a o,Z a=some o->s.heap.get? a=some o) (st:∀ a o,X.base.get? a=some o->¬ Tb X a->Z a=some o) (ztab:∀ a,Tb X a->Z a=none) (old:OldK X.base s.heap) (os:s.os=X.os) (gens:AllBare s.gens) (g3:∃ o,Z mainGlobals=some o)
  (mem:∀ p ∈ sub,CellRel X.prog X.w Z s.heap p.1 p.2) (nd:(keys sub).Nodup) (ex:∀ a ∈ keys sub,∃ o,s.heap.get? a=some o) (zfoot:∀ a ∈ keys sub,Z a=none) (bfoot:∀ a ∈ keys sub,X.base.get? a=none) (low:∀ a ∈ keys sub,3 < a)
  (hvs:VsRel X.prog X.w Z ds vs)
  (h:EX (X.callee fd s.heap.objs.size a) body ⟨loc,cel,[],sub⟩ Pf)
  (hR:∀ f d v s' B' Z',Rel (X.callee fd s.heap.objs.size a) B' Z' s'->Pf f B'->d=N3 f->VRel X.prog X.w Z' d v->R (.ok (.ret v)) s')
  (hco:fd.scope.isCoroutine=false:=by rfl) (hgen:fd.scope.isGenerator=false:=by rfl) (hk:fd.scope.kind=.function:=by rfl):codeAny (model X.prog X.w) X.A (.call (.ref a) ⟨vs,[]⟩) R s:=by
 obtain⟨⟨⟨⟨⟨⟨⟨hln,hcn⟩,hpn⟩,hnn⟩,hlk⟩,hck⟩,hdb⟩,hpk⟩:=T3 hok;have hvl:ps.length=vs.length:=by rw[hlen,hvs.length]
 have hzn:((ps.zip vs).map (·.1))=ps:=map_fst_zip (le_of_eq hvl);refine codeAny_call_cells hA.room ho hd hlim hcd hbody hbind hclo (fun x hx=>?_) (fun s₁ y=>?_) hco hgen hk
 ·have:x.1 ∈ ps:=by rw[<- hzn];exact mem_map_of_mem hx
  rcases hpk _ this with h1 | h1
  ·exact .inl h1
  ·exact .inr ⟨h1,Yd h1⟩
 ·obtain⟨h₁,tk,rfl,hk₁⟩:=y.done;generalize hL:s.heap.objs.size=L at *;have ltL:∀ b o,s.heap.get? b=some o->b < L:=fun b o e=>hL ▸ lt_size e
  have ab:∀ b ∈ (callEnvC fd L a).cells.map (·.2),L < b:=fun b hb=>by
   obtain⟨p,hp,rfl⟩:=mem_map.mp hb;exact y.above p.1 p.2 hp
  have cnames:((callEnvC fd L a).cells.map (·.1)).Nodup:=Wp hnn
  have Zt:∀ b,L ≤ b->s.heap.get? b=none:=fun b hb=>by
   refine Zb fun o' e=>?_;exact absurd (ltL _ _ e) (not_lt.mpr hb)
  have ftc:∀ b ∈ Z0 (X.callee fd L a) ⟨loc,cel,[],sub⟩,b ∈ keys sub \/ L ≤ b:=fun b hb=>by
   rcases mem_cons.mp hb with e0 | hb
   ·have e0:b=L:=e0;exact .inr (le_of_eq e0.symm)
   ·rcases mem_append.mp hb with hb | hb
    ·exact .inr (le_of_lt (ab _ hb))
    ·exact .inl hb
  have r₁:Rel (X.callee fd L a) ⟨loc,cel,[],sub⟩ Z {s with heap:=h₁,toks:=tk}:=by
   refine⟨⟨hln,fun p hp=>hlk _ (mem_map_of_mem hp),fun p hp=>hck _ (mem_map_of_mem hp),hcn,fun x y' c _ _ h1 h2=>Uu y.apart h1 h2,(fun p hp=>by exact mnE hp),(fun x hx=>hdb x (by simpa using hx)),hk⟩,fun b o e=>hk₁ _ _ (zin b o e),st,ztab,old.step_keeps hk₁,os,gens,
    ⟨_,y.toInCall.ns,fun x ov hx=>?_⟩,fun x ov hx=>?_,(fun _ _ h=>by exact mnE h),(fun c hc=>by obtain⟨p,hp,rfl⟩:=mem_map.mp hc;exact⟨_,y.cell p.1 p.2 (lookup_of_mem_nodup cnames hp)⟩),fun p hp=>(mem p hp).mono (fun _ _ e=>e) fun o e=>hk₁ _ _ e,?_,?_,?_,?_,g3,low⟩
   ·cases ov with
    | none=>trivial
    | some d=>
     obtain⟨v,hv,hr⟩:=X2 hvs (X1 hl hx);exact⟨v,Si (hlk _ (mem_map_of_mem (f:=(·.1)) hx)) _ _ _ (by rw[hzn];exact hpn) hv,hr⟩
   ·have hkx:(callEnvC fd L a).kindOf x=some .cell:=hck _ (mem_map_of_mem (f:=(·.1)) hx);have:=Yd (n:=L + 1) hkx;obtain⟨c,hcc⟩:=Option.isSome_iff_exists.mp this;refine⟨c,_,mem_map.mpr ⟨(x,c),Yu hcc,rfl⟩,hcc,y.cell x c hcc,?_⟩;cases ov with
    | none=>trivial
    | some d=>
     obtain⟨v,hv,hr⟩:=X2 hvs (X1 hcl hx);exact⟨v,Sj hkx _ _ _ (by rw[hzn];exact hpn) hv,hr⟩
   ·show(L::((callEnvC fd L a).cells.map (·.2)++keys sub)).Nodup;refine nodup_cons.mpr ⟨fun hm=>?_,nodup_append.mpr ⟨?_,nd,fun b hb c hc e=>?_⟩⟩
    ·rcases mem_append.mp hm with hm | hm
     ·exact lt_irrefl _ (ab _ hm)
     ·obtain⟨o',ho'⟩:=ex _ hm;exact lt_irrefl _ (ltL _ _ ho')
    ·have:=y.apart;rw[List.Nodup,pairwise_map];exact this
    ·subst e;obtain⟨o',ho'⟩:=ex _ hc;exact lt_irrefl _ (lt_trans (ltL _ _ ho') (ab _ hb))
   ·intro b hb;rcases ftc b hb with hb | hb
    ·exact zfoot b hb
    ·refine Zb fun o' e=>?_;have:=zin _ _ e;rw[Zt b hb] at this;exact nsE this
   ·intro b hb;rcases ftc b hb with hb | hb
    ·exact bfoot b hb
    ·cases e:X.base.get? b with
     | none=>exact e
     | some o'=>obtain⟨o2,h2⟩:=old.there _ _ e;rw[Zt b hb] at h2;exact nsE h2
   ·intro b hb;rcases mem_cons.mp hb with e0 | hb
    ·have e0:b=L:=e0;obtain⟨o',_,_,ho',_⟩:=y.toInCall.ns;exact⟨o',by rw[e0];exact ho'⟩
    ·rcases mem_append.mp hb with hb | hb
     ·obtain⟨p,hp,rfl⟩:=mem_map.mp hb;obtain⟨o',ho',_⟩:=y.cell p.1 p.2 (lookup_of_mem_nodup cnames hp);exact⟨o',ho'⟩
     ·obtain⟨o',ho'⟩:=ex b hb;exact⟨o',hk₁ _ _ ho'⟩
  refine wpAny_mono (h Z _ r₁) (fun f s' q=>?_) fun _ _ h=>h.elim;obtain⟨Z',B',f',x,hf,hP⟩:=q;cases f' with
  | next=>cases hf;exact hR _ _ _ _ _ _ x.rel hP rfl Xd
  | brk=>cases hf;exact hR _ _ _ _ _ _ x.rel hP rfl Xd
  | cont=>cases hf;exact hR _ _ _ _ _ _ x.rel hP rfl Xd
  | ret d=>obtain⟨v,rfl,hv⟩:=hf;exact hR _ _ _ _ _ _ x.rel hP rfl hv
theorem T6{h h':Heap}{P c:Addr}{ps tb:Array Value}(K:OldK (h.hide P) h')(hP:P ≠ cStatics)(ht:h.TableAt c P ps)(hx:∃ more,tb=ps++more)(h':h'.get? P=some (tabObj tb)):OldK h ‹Heap›:=by
 obtain⟨more,rfl⟩:=hx;refine⟨fun b o e=>?_,fun b o e=>?_⟩
 ·by_cases hb:b=P
  ·subst hb;have e0:o=tabObj ps:=Option.some.inj (e.symm.trans ht.2);subst e0;exact .inr (.inl ⟨ht.isCodeTable,rfl,ps,more,rfl,h'⟩)
  ·rcases K.old b o ((hide_ne h hb).trans e) with x | ⟨⟨c',oc,vc,e1,e2,e3,e4⟩,hc,vs,m₁,hv,x⟩ | ⟨rfl,hc,⟨o',es,n,ho',r⟩,z⟩
   ·exact .inl x
   ·exact .inr (.inl ⟨⟨c',oc,vc,of_hide e1,e2,e3,e4⟩,hc,vs,m₁,hv,x⟩)
   ·refine .inr (.inr ⟨rfl,hc,⟨o',es,n,ho',r⟩,fun key=>?_⟩);have:=z key;rw[OldK.staticOf_congr (hide_ne h (Ne.symm hP)) key] at this;exact this
 ·by_cases hb:b=P
  ·exact⟨_,hb ▸ h'⟩
  ·exact K.there b o ((hide_ne h hb).trans e)
section
variable{X:Cx}{B B':St}{Z Z':ZM}{s s':Shared}{P:V->St->Prop}
theorem BIN.shr{a n:Int}(h:P (.int (a.fdiv (2 ^ n.toNat))) B)(hn:0 ≤ n):BIN X .RShift (.int a) (.int n) B P:=fun Z s v1 v2 r h1 h2=>by
 obtain⟨t,rfl⟩:=h1;obtain⟨u,rfl⟩:=h2;exact PyProof.Rows.rshift_int hn (here (Ext.refl r).toks Zu h)
theorem BIN.band{a b:Int}(h:P (.int (Builtin.bitAnd a b)) B):BIN X .BitAnd (.int a) (.int b) B P:=fun Z s v1 v2 r h1 h2=>by
 obtain⟨t,rfl⟩:=h1;obtain⟨u,rfl⟩:=h2;exact PyProof.Rows.and_int (here (Ext.refl r).toks Zu h)
theorem Pw(a b:Nat):Builtin.bitAnd (a:Int) (b:Int)=((a &&& b:Nat):Int):=by
 unfold Builtin.bitAnd;rw[decide_eq_true (natCast_nonneg a),decide_eq_true (natCast_nonneg b)];rfl
theorem CALL.popAt{a:Addr}{l:List V}{d:V}{k:Int}{i:Nat}{mem'}(hm:(a,Cell.list l) ∈ B.mem)(hk:k=i)(hd:l[i]?=some d)(hu:UpM a (.list (l.eraseIdx i)) B.mem mem')(h:P d {B with mem:=mem'})(hs:l.length ≤ sizeLine):CALL X (.builtin "list.pop") [.ref a,.int k] B P:=fun Z s vs r hvs=>by
 obtain⟨v,u,rfl,h0,t,rfl⟩:=vs2 hvs;cases h0;obtain⟨its,⟨m,hp⟩,hr⟩:=r.mem _ hm
 haveI hsz:its.size=l.length:=hr.length'
 haveI hi:=(List.getElem?_eq_some_iff.mp hd).1
 obtain⟨y,hy,hyr⟩:=hr.get hd
 haveI hy':its[i]?=some y:=by exact(getElem?_toList ..).symm.trans (hy)
 haveI hf:Builtin.List.listFitsIndex k=true:=by
  rw[hk]
  haveI h1:i < 2 ^ 24:=lt_of_lt_of_le hi hs
  unfold Builtin.List.listFitsIndex;rw[and_eq_true,decide_eq_true_eq,decide_eq_true_eq];exact⟨Int.le_trans (by decide) (natCast_nonneg _),Int.lt_trans (ofNat_lt.mpr h1) (by decide)⟩
 haveI hk1:seqIndex? k its.size=some i:=by rw[hk];exact Yz (by rw[hsz];exact hi)
 haveI hs1:its.size ≤ sizeLine:=by rw[hsz];exact hs
 haveI g:=@PySem.MeetsSeq.list_pop_at a its m k t i y hf hk1 hy' hs1
 refine call_meets F.slot_list_pop ⟨_,hp,rfl⟩ F.entry_list_pop (F.args_list_pop_2 _ _) g ⟨hp,?_⟩;obtain⟨hp',hs'⟩:=PlainList.upd ⟨m,hp⟩ fun xs=>xs.eraseIdxIfInBounds i;refine Z7 (r.setMem hu hs' ⟨_,hp',?_⟩) hyr h
 haveI:=hr.eraseIdx i
 rw[Array.eraseIdxIfInBounds,dif_pos (by exact(lt_of_lt_of_le hi (le_of_eq hsz.symm))),Array.toList_eraseIdx];exact this
theorem VsRel.vatNone{K:Type}[DecidableEq K]{ks:List K}:∀ {l:List V} {vs:List Value} {k:K},VsRel X.prog X.w Z l vs->Mine.vat ks l k=Option.none->Mine.vat ks vs k=Option.none:=by
 induction ks with
 | nil=>intro l vs k _ _;rfl
 | cons a ks ih=>
  intro l vs k hr h;cases l with
  | nil=>cases (show vs=[] from hr);exact Re
  | cons b l=>
   obtain⟨v,r,rfl,hv,hq⟩:=hr;rw[Zd] at h ⊢;split at h
   ·exact snE h
   ·rename_i hh;rw[if_neg hh];exact ih hq h
theorem CALL.dget{ks:List Str}{l:List V}{k:Str}{d0:V}(h:P ((vat ks l k).getD d0) B):CALL X (.builtin "dict.get") [.sdict ks l,.str k,d0] B P:=fun Z s vs r hvs=>by
 obtain⟨v1,r1,rfl,h1,h2⟩:=hvs;obtain⟨v2,r2,rfl,h2,h3⟩:=h2;obtain⟨v3,r3,rfl,h3,h4⟩:=h3;cases (show r3=[] from h4);obtain⟨a,us,rfl,lo,z,hl,hr⟩:=h1;obtain⟨t,rfl⟩:=h2
 haveI hm:=r.pdict z
 refine call_meetsIn F.slot_dict_get hm.typeIs F.entry_dict_get (F.args_dict_get_3 _ _ _) (meets_dict_get_default (PySem.strKind X.prog X.w) a Pn (Yt lo) v3) ⟨_,hm.mapOf,?_⟩;cases hv:vat ks l k with
 | some d=>
  obtain⟨v,hv1,hv2⟩:=hr.vat hv;rw[hv] at h;refine Z7 (Ext.refl r).toks ?_ h;rw[show valueAt (ks.zip us) k=some v from hv1];exact hv2
 | none=>
  rw[hv] at h;refine Z7 (Ext.refl r).toks ?_ h;rw[show valueAt (ks.zip us) k=Option.none from hr.vatNone hv];exact h3
theorem BIN.shrN{a n:Nat}(h:P (nat (a / 2 ^ n)) B):BIN X .RShift (nat a) (nat n) B P:=
 BIN.shr (by
  rw[toNat_natCast,show(2:Int) ^ n=((2 ^ n:Nat):Int) by rw[Int.natCast_pow];rfl,Int.fdiv_eq_ediv_of_nonneg _ (natCast_nonneg _),<- Int.natCast_ediv];exact h) (natCast_nonneg _)
theorem BIN.bandN{a b:Nat}(h:P (nat (a &&& b)) B):BIN X .BitAnd (nat a) (nat b) B P:=BIN.band (by rw[Pw];exact h)
inductive LCN(X:Cx)(elt target:PySem.Expr)(scope:Scope)(l0:List V)(P:V->St->Prop)(d:V)(B1:St):Prop
 | mk (its:List V) (locc celc:List (Str × Option V)) (capc:List (Str × V)) (hit:ITERC X target B1 d its) (hL:ScL B1.cel B1.cap scope.names locc celc capc) (hsz:its.length ≤ sizeLine)
  (turn:∀ C di m,di ∈ its->AS (X.comp scope C) target di ⟨locc,celc,capc,m⟩ fun B2=>EV (X.comp scope C) elt B2 fun d B4=>∃ r,d=.ref r /\ Back ⟨locc,celc,capc,[]⟩ (m++[(r,.list l0)]) B4)
  (fin:∀ D (rs:List Addr),rs.length=its.length->P (.ref D) {B1 with mem:=B1.mem++(D,.list (rs.map V.ref))::rs.zip ((replicate its.length l0).map Cell.list)})
theorem O1{α β:Type}{c:β}:∀ (rs:List α),rs.zip (replicate rs.length c)=rs.map fun r=>(r,c)
 | []=>rfl
 | r::rs=>by rw[length_cons,replicate_succ,zip_cons_cons,O1 rs];rfl
theorem LCN.toB{elt target iter:PySem.Expr}{scope:Scope}{pos:Pos}{l0:List V}{d:V}{B1:St}(h:LCN X elt target scope l0 P d B1):LCB X target scope (.ListComp elt [⟨target,iter,[],0⟩] scope pos) [] (.list []) P d B1:=by
 obtain⟨its,locc,celc,capc,hit,hL,hsz,turn,fin⟩:=h;refine .mk its locc celc capc hit hL (fun c m1 m2=>∃ rs:List Addr,rs.length=its.length /\ c=.list (rs.map V.ref) /\ m1=B1.mem /\ m2=rs.map fun r=>(r,.list l0)) (fun C D=>⟨fun i B2=>∃ rs:List Addr,rs.length=i /\ Back ⟨locc,celc,capc,[]⟩ (B1.mem++(D,.list (rs.map V.ref))::rs.map fun r=>(r,Cell.list l0)) B2,⟨[],rfl,Wk.refl _,Wk.refl _,rfl,rfl⟩,?_,?_⟩) ?_
 ·rintro i di B2 hi ⟨rs,hr,hb⟩
  haveI hb':Back {(⟨locc,celc,capc,[]⟩:St) with mem:=B1.mem++(D,.list (rs.map V.ref))::rs.map fun r=>(r,Cell.list l0)} ({(⟨locc,celc,capc,[]⟩:St) with mem:=B1.mem++(D,.list (rs.map V.ref))::rs.map fun r=>(r,Cell.list l0)}:St).mem B2:=hb
  refine AS.forget hb' (AS.mono (turn C di _ (mem_of_getElem? hi)) fun B3 h3=>TS.nil ?_);refine(if_pos rfl).mpr ?_;refine IN.append rfl (J.post h3 fun d B4 h4=>?_);obtain⟨r,rfl,h1,h2,h3,h4⟩:=h4
  haveI hlen:=(List.getElem?_eq_some_iff.mp hi).1
  haveI up:∀ (m:List (Addr × Cell)) (a c c' t),UpM a c' (m++(a,c)::t) (m++(a,c')::t):=fun m a c c' t=>by
   induction m with
   | nil=>exact .head
   | cons _ _ ih=>exact .tail ih
  refine⟨rs.map V.ref,by rw[h4];exact mem_append_left _ (mem_append_right _ mem_cons_self),by rw[length_map,hr];exact le_trans (le_of_lt hlen) hsz,B1.mem++(D,.list (rs.map V.ref++[V.ref r]))::(rs.map (fun r=>(r,Cell.list l0))++[(r,.list l0)]),?_,rs++[r],by rw[length_append,hr];rfl,h1,h2,h3,by rw[map_append,map_append];rfl⟩;rw[h4,append_assoc];exact up _ _ _ _ _
 ·rintro B2 ⟨rs,hr,hb⟩;exact⟨_,_,_,hb.2.2.2,rs,hr,rfl,rfl,rfl⟩
 ·rintro D c m1 m2 ⟨rs,hr,rfl,rfl,rfl⟩
  haveI:=fin D rs hr
  rw[map_replicate,<- hr,O1] at this;exact this
theorem EV.lcn{elt target iter:PySem.Expr}{scope:Scope}{pos:Pos}(l0:List V)(h:EV X iter B (LCN X elt target scope l0 P))
  (hok:Zc scope.names=true) (hfk:Y3 scope.names (B.cel.map (·.1)) (B.cap.map (·.1))=true) (hk:scope.kind=.function) (hs:∀ x,foldedSetIterable iter X.env x=pure x):
  EV X (.ListComp elt [⟨target,iter,[],0⟩] scope pos) B P:=fun Z s r=>by
 rw[eval_ListComp];refine Tj (gs:=[]) (Q:=P) (oa:={cls:=.type "list",data:=.seq #[]}) (c0:=.list []) (use:=Option.none) (.inl ⟨_,_,_,_,rfl⟩) rfl (fun _ h=>nomatch h) hok hk rfl (fun Z h a e=>⟨#[],⟨0,e⟩,rfl⟩) (fun s Q h=>wpAny_newList (items:=[]) h (zero_le _)) r (J.mono h fun _ _ h=>h.toB) hs hfk ?_;intro d v C B1 Z1 s1 B' Z' s' x1 x2 hv hq hCf hCz hCn ⟨m,hn⟩;exact⟨m,hn,fun h' hs'=>here (x1.trans (Wo (Q:=P) (d:=d) (v:=v) x1.rel x2 hCf hCz hCn hs')) hv hq⟩
theorem Q9{β:Type}{r:Addr}{c:β}{rs:List Addr}:∀ {cs:List β} {i:Nat},rs[i]?=some r->cs[i]?=some c->(r,c) ∈ rs.zip cs:=by
 induction rs with
 | nil=>intro _ _ h;exact nsE h
 | cons a rs ih=>
  intro cs i h1 h2;cases cs with
  | nil=>exact nsE h2
  | cons b cs=>
   cases i with
   | zero=>cases h1;cases h2;exact mem_cons_self
   | succ i=>exact mem_cons_of_mem _ (ih h1 h2)
theorem Oc{r:Addr}{c':Cell}{rs:List Addr}:∀ {cs:List Cell} {i:Nat},rs[i]?=some r->i < cs.length->UpM r c' (rs.zip cs) (rs.zip (cs.set i c')):=by
 induction rs with
 | nil=>intro _ _ h;exact nsE h
 | cons a rs ih=>
  intro cs i h1 h2;cases cs with
  | nil=>exact absurd h2 (Nat.not_lt_zero _)
  | cons b cs=>
   cases i with
   | zero=>cases h1;exact .head
   | succ i=>exact .tail (ih h1 (Nat.lt_of_succ_lt_succ h2))
theorem Cut.pre{a:Addr}{c:Cell}{l l':List (Addr × Cell)}(h:Cut a c l l'):∀ m,Cut a c (m++l) (m++l')
 | []=>h
 | _::m=>.tail (Cut.pre h m)
theorem FzL.pre{a:Addr}{w:V}{l l':List V}(h:FzL a w l l'):∀ m,FzL a w (m++l) (m++l')
 | []=>h
 | _::m=>.cons .same (FzL.pre h m)
theorem CALL.lenLM{a:Addr}{l:List V}(hm:(a,Cell.list l) ∈ B.mem)(hs:l.length ≤ sizeLine)(h:P (.int l.length) B):CALL X (.builtin "len") [.ref a] B P:=fun Z s vs r hvs=>by
 obtain⟨v,rfl,rfl⟩:=vs1 hvs;obtain⟨its,⟨m,hp⟩,hr⟩:=r.mem _ hm
 haveI hl:its.size=l.length:=hr.length'
 exact call_len_list ⟨_,hp,rfl,_,rfl⟩ (by unfold sizeLine at hs;exact(Int.lt_of_le_of_lt (Int.le_trans (ofNat_le.mpr (le_of_eq hl)) (ofNat_le.mpr hs)) (by decide))) (Z7 (Ext.refl r).toks (Wt (by rw[hl])) h)
theorem EV.dictES{pos}(h:P (.sdict [] []) B):EV X (.Dict [] [] pos) B P:=
 EV.frz (EV.dictM fun a=>⟨a,_,B,_,⟨rfl,⟨_,Cut.last _,.rest⟩,FzE.refl _,FzE.refl _,rfl⟩,.at,h⟩)
theorem CALL.listL{l:List V}(hs:l.length ≤ sizeLine)(h:∀ D,P (.ref D) {B with mem:=B.mem++[(D,.list l)]}):CALL X (.type "list") [.list l] B P:=fun Z s vs r hvs=>by
 obtain⟨v,rfl,a,its,n,rfl,z,hr⟩:=vs1 hvs;have hsz:its.size=l.length:=hr.length';refine call_list_seq a (.inl rfl) (r.zin _ _ z) rfl rfl (fun h' c' hk ho=>?_) (by exact(le_trans (le_of_eq hsz) hs));have s3:=r.sz3;refine Z7 (Ext.addMs r (tk:=s.toks) (new:=[(s.heap.objs.size,.list l)]) hk (by exact Wg) fun p hp=>?_) Yh (h _);simp only[mem_cons,not_mem_nil,or_false] at hp;subst hp;exact⟨get?_none_of_le (le_refl _),⟨its,⟨_,ho⟩,hr⟩,s3⟩
theorem Ext.addMx(r:Rel X B Z s)(x:Ext X B Z s B Z s'){new:List (Addr × Cell)}(hnd:(keys new).Nodup)
  (hn:∀ p ∈ new,s.heap.get? p.1=none /\ CellRel X.prog X.w Z s'.heap p.1 p.2 /\ 3 < p.1):Ext X B Z s {B with mem:=B.mem++new} Z s':=by
 have q:=x.rel;have hn1:∀ a ∈ keys new,s.heap.get? a=none:=fun a ha=>by obtain⟨p,hp,rfl⟩:=mem_map.mp ha;exact(hn p hp).1
 have hf:∀ a ∈ keys new,a ∉ Z0 X B:=fun a ha hh=>by obtain⟨o,e⟩:=r.ex a hh;rw[hn1 a ha] at e;exact nsE e
 have km:keys (B.mem++new)=keys B.mem++keys new:=by exact Y2 ..
 have ft:∀ a,a ∈ Z0 X {B with mem:=B.mem++new} ↔ a ∈ Z0 X B \/ a ∈ keys new:=fun a=>by
  unfold Z0;rw[km];simp only[mem_cons,mem_append]
  constructor
  ·rintro(h | h | h | h)
   ·exact .inl (.inl h)
   ·exact .inl (.inr (.inl h))
   ·exact .inl (.inr (.inr h))
   ·exact .inr h
  ·rintro((h | h | h) | h)
   ·exact .inl h
   ·exact .inr (.inl h)
   ·exact .inr (.inr (.inl h))
   ·exact .inr (.inr (.inr h))
 refine⟨⟨⟨q.fr.lnd,q.fr.lk,q.fr.ck,q.fr.cnd,q.fr.cinj,q.fr.pk,q.fr.dbg,q.fr.kind⟩,q.zin,q.st,q.ztab,q.old,q.os,q.gens,q.ns,q.cells,q.cap,q.ownc,fun p hp=>?_,?_,fun a ha=>?_,fun a ha=>?_,fun a ha=>?_,q.g3,fun a ha=>?_⟩,x.le,x.keep,fun a ha=>?_,x.znew⟩
 ·rcases mem_append.mp hp with h | h
  ·exact q.mem p h
  ·exact(hn p h).2.1
 ·have nd:=r.nd
  have e:Z0 X {B with mem:=B.mem++new}=Z0 X B++keys new:=by
   unfold Z0;rw[km];simp
  rw[e];exact nodup_append.mpr ⟨nd,hnd,fun a ha b hb e=>hf b hb (e ▸ ha)⟩
 ·rcases(ft a).mp ha with h | h
  ·exact q.zfoot a h
  ·refine Zb fun o e=>?_;have:=r.zin _ _ e;rw[hn1 a h] at this;exact nsE this
 ·rcases(ft a).mp ha with h | h
  ·exact q.bfoot a h
  ·refine Zb fun o e=>?_;obtain⟨o2,h2⟩:=r.old.there _ _ e;rw[hn1 a h] at h2;exact nsE h2
 ·rcases(ft a).mp ha with h | h
  ·exact q.ex a h
  ·obtain⟨p,hp,rfl⟩:=mem_map.mp h;have hc:=(hn p hp).2.1
   revert hc
   cases p.2 <;> intro hc
   ·obtain⟨_,⟨_,h⟩,_⟩:=hc;exact⟨_,h⟩
   ·obtain⟨_,⟨o,_,_,h,_⟩,_⟩:=hc;exact⟨o,h⟩
   ·obtain⟨_,⟨o,_,_,h,_⟩,_⟩:=hc;exact⟨o,h⟩
   ·obtain⟨_,⟨o,_,_,h,_⟩,_⟩:=hc;exact⟨o,h⟩
   ·obtain⟨o,h,_⟩:=hc;exact⟨o,h⟩
 ·have ha:a ∈ keys (B.mem++new):=ha;rw[km] at ha;rcases mem_append.mp ha with h | h
  ·exact q.low a h
  ·obtain⟨p,hp,rfl⟩:=mem_map.mp h;exact(hn p hp).2.2
 ·have ha:a ∈ keys (B.mem++new):=ha;rw[km] at ha;rcases mem_append.mp ha with h | h
  ·exact .inl h
  ·exact .inr (hn1 a h)
theorem CALL.listDM{ks:List Str}{l:List V}(hA:X.A.handled=none)(hs:ks.length ≤ 16777216)(h:∀ D,P (.ref D) {B with mem:=B.mem++[(D,.list (ks.map V.str))]}):CALL X (.type "list") [.sdict ks l] B P:=fun Z s vs r hvs=>by
 obtain⟨v,rfl,a,us,rfl,lo,z,hl,hr⟩:=vs1 hvs;obtain⟨m,hn,hm⟩:=r.ns;have hd:=r.pdict z;obtain⟨o,es,ep,ho,hq⟩:=id hd
 have hne:a ≠ X.env.locals:=fun e=>by
  obtain⟨o',es',ep',hz,_⟩:=z;rw[e,r.zfoot _ mem_cons_self] at hz;exact nsE hz
 have hk:(ks.zip us).map (·.1)=ks:=Wc hl;refine kdl_list_keysS hA (r.frame hn) r.news (mem_allNews.mpr ⟨ho,hne⟩) (o:=o) (kvs:=ks.zip us) ⟨es,ep,hq⟩ (Yt lo) (by rw[length_zip];exact(le_trans (min_le_left ..) hs)) fun ao c h' tk=>?_
 have fin:∀ vs:List Value,VsRel X.prog X.w Z (ks.map V.str) vs->Fr noHeap X.env.locals h' m->News noHeap X.env.locals h' ((ao,listOf vs.toArray c)::V2 s.heap X.env.locals)->(∀ q ∈ V2 s.heap X.env.locals,q.1 < ao)->Post X (RV X) B Z s P (.ref ao) {s with heap:=h',toks:=tk}:=fun vs hv F N hB=>by
  have ex:Ext X B Z s B Z {s with heap:=h',toks:=tk}:=Ext.ofFr r hm F fun p hp=>N p (.tail _ hp)
  have hBn:s.heap.get? ao=none:=by
   refine Zb fun ob e=>?_;exact absurd (hB (ao,ob) (mem_allNews.mpr ⟨e,(N _ (.head _)).2.1⟩)) (lt_irrefl _)
  have h3:3 < ao:=lt_of_lt_of_le lo (le_of_lt (hB (a,o) (mem_allNews.mpr ⟨ho,hne⟩)));refine Z7 (Ext.addMx r ex (new:=[(ao,.list (ks.map V.str))]) (by exact Wg) fun p hp=>?_) Yh (h _);simp only[mem_cons,not_mem_nil,or_false] at hp;subst hp;exact⟨hBn,⟨vs.toArray,⟨_,(N _ (.head _)).1⟩,Tk hv⟩,h3⟩
 have go:∀ (kvs:List (Str × Value)) (C:List Value->Prop),(∀ vs,VsRel X.prog X.w Z ((kvs.map (·.1)).map V.str) vs->C vs)->KdlKeysS kvs C:=by
  intro kvs
  induction kvs with
  | nil=>intro C hC;exact hC [] rfl
  | cons q r ih=>intro C hC t;exact ih _ fun vs hv=>hC _ ⟨_,vs,rfl,Xi,hv⟩
 exact go _ _ fun vs hv=>fin vs (by rw[hk] at hv;exact hv)
end
noncomputable def EqW(prog:Program)(w:World)(A:Around)(s:Shared)(y x:Value):Prop:=∀ (E:Value->Shared->Prop) (Q:Bool->Shared->Prop),Q true s->wpAny (model prog w) A (eqBool y x) Q E s
theorem Uy{prog:Program}{w:World}{A:Around}{E:Value->Shared->Prop}{s:Shared}{a b:Addr}{xs ys:Array Value}{P:Fin->Shared->Prop}(hx:s.heap.IsTuple a xs)(hy:s.heap.IsTuple b ys)(hsz:xs.size=ys.size)
  (he:∀ j (h1:j < xs.size) (h2:j < ys.size),EqW prog w A s xs[j] ys[j]) (h:P (.done (.ret (.bool true))) s):wpAny (model prog w) A (Builtin.«tuple.__eq__» ⟨[.ref a,.ref b],[]⟩) P E s:=by
 have hTb:s.TypeIs (.ref b) "tuple" :=by obtain⟨o,ho,hc,_⟩:=hy;exact⟨o,ho,hc⟩
 obtain⟨oa,hoa,_,na,hda⟩:=hx;obtain⟨ob,hob,_,nb,hdb⟩:=hy;show wpAny _ _ (isInstance (.ref b) (.type "tuple") >>= _) _ _ s;refine wpAny_bind (wpAny_isInstance hTb isSubtype_tuple_tuple ?_);simp only[Bool.not_true,false_eq_true,if_false];refine wpAny_bind (wpAny_tupleItemsOf hoa hda ?_);refine wpAny_bind (wpAny_tupleItemsOf hob hdb ?_);refine wpAny_bind ?_;have hZ:(xs.toList.zip ys.toList).length=xs.size:=by exact Lf (Eq.symm (by assumption))
 refine wpAny_forIn_list _ (fun rest r s'=>r.1=none /\ s'=s /\ ∃ i,rest=(xs.toList.zip ys.toList).drop i) _ ?_ ?_ _ _ ⟨rfl,rfl,0,rfl⟩
 ·rintro⟨u,v⟩ rest r s' ⟨hr,rfl,i,hz⟩
  have hlt:i < (xs.toList.zip ys.toList).length:=by
   rcases lt_or_ge i (xs.toList.zip ys.toList).length with h' | h'
   ·exact h'
   ·rw[drop_of_length_le h'] at hz;exact(nomatch hz)
  have h1:i < xs.size:=hZ ▸ hlt;have h2:i < ys.size:=hsz ▸ h1;rw[drop_eq_getElem_cons hlt] at hz;injection hz with hyx hrest
  have e1:u=xs[i]:=by have:=congrArg Prod.fst hyx;simpa using this
  have e2:v=ys[i]:=by have:=congrArg Prod.snd hyx;simpa using this
  subst e1 e2;refine wpAny_bind (he i h1 h2 _ _ ?_);simp only[Bool.not_true,false_eq_true,if_false];exact wpAny_pure ⟨rfl,rfl,i + 1,hrest⟩
 ·rintro⟨r1,r2⟩ s' ⟨hr,rfl,i,hz⟩;simp only at hr;subst hr;refine wpAny_pure ?_;show P (.done (.ret (.bool (xs.size == ys.size)))) s';rw[hsz,beq_self_eq_true];exact h
theorem EqW.of{prog:Program}{w:World}{A:Around}{s:Shared}{y x:Value}(h:EqAt A s y x true):EqW prog w A s y x:=fun E Q hq=>h prog w E Q hq
theorem EqW.refs{prog:Program}{w:World}{A:Around}{s:Shared}{l b:Addr}(hne:l ≠ b)(h:∀ (E:Value->Shared->Prop) (Q:Value->Shared->Prop),Q (.bool true) s->wpAny (model prog w) A (richCompare .Eq (.ref l) (.ref b)) Q E s):EqW prog w A s (.ref l) (.ref b):=fun E Q hq=>by
 unfold eqBool;refine wpAny_holding ?_;refine wpAny_ite_split (fun hab=>absurd (by have:=eq_of_beq hab;injection this) hne) (fun _=>?_);exact wpAny_bind (h E _ (wpAny_truthy_bool hq))
section
variable{X:Cx}{B B':St}{Z Z':ZM}{s s':Shared}{P:V->St->Prop}
theorem SUB.scell{a:Addr}{ks:List Str}{l:List V}{k:Str}{d:V}(hm:(a,Cell.sdict ks l) ∈ B.mem)(hd:vat ks l k=some d)(h:P d B):SUB X (.ref a) (.str k) B P:=fun Z s v1 v2 r h1 h2=>by
 cases h1;obtain⟨t,rfl⟩:=h2;obtain⟨us,hdict,hl,hr⟩:=r.mem _ hm;obtain⟨v,hv,hvr⟩:=hr.vat hd;refine⟨⟨_,_,hdict.typeIs,F.slot_dict_getitem.lookup⟩,?_⟩;exact wpAny_getItem_of (knd:=PySem.strKind X.prog X.w) (k:=k) Pn hdict.mapOf hv (Z7 (Ext.refl r).toks hvr h)
theorem CMP.inSC{a:Addr}{ks:List Str}{l:List V}{k:Str}(hm:(a,Cell.sdict ks l) ∈ B.mem)(h:P (.bool (decide (k ∈ ks))) B):CMP X .In (.str k) (.ref a) B P:=fun Z s v1 v2 r h1 h2=>by
 cases h2;obtain⟨t,rfl⟩:=h1;obtain⟨us,hdict,hl,hr⟩:=r.mem _ hm;refine wpAny_in_of (knd:=PySem.strKind X.prog X.w) (k:=k) Pn (Yt (r.low a (mem_map_of_mem (f:=(·.1)) hm))) hdict.mapOf (Z7 (Ext.refl r).toks ?_ h);rw[vat_valueAt,Xn hl];exact Zg
theorem SETI.scell{a:Addr}{ks:List Str}{l:List V}{k:Str}{d:V}{Q:St->Prop}{mem'}(hm:(a,Cell.sdict ks l) ∈ B.mem)(hs:ks.length ≤ sizeLine)(hu:UpM a (.sdict (Zo ks k) (vput ks l k d)) B.mem mem')(h:Q {B with mem:=mem'}):
  SETI X (.ref a) (.str k) d B Q:=fun Z s v1 v2 v3 r h1 h2 h3=>by
 cases h1;obtain⟨t,rfl⟩:=h2;obtain⟨us,hdict,hl,hr⟩:=r.mem _ hm;refine wpAny_setItem_pairs (knd:=PySem.strKind X.prog X.w) (k:=k) Pn hdict (fun h' hd' hs'=>?_) (by rw[length_zip];exact(le_trans (min_le_left ..) hs));rw[Tp hl] at hd';exact⟨_,_,(),(r.setMem hu hs' ⟨_,hd',W2 hl,VsRel.vput hr h3⟩).toks,rfl,h⟩
theorem CALL.sitems{ks:List Str}{l:List V}(h:P (.view true (.sdict ks l)) B):CALL X (.builtin "dict.items") [.sdict ks l] B P:=fun Z s vs r hvs=>by
 obtain⟨v,rfl,a,us,rfl,lo,z,hl,hr⟩:=vs1 hvs;have hd:=r.pdict z;refine call_meetsIn PySem.F.slot_dict_items hd.typeIs PySem.F.entry_dict_items (PySem.F.args_dict_items_1 _) (meets_dict_items (PySem.strKind X.prog X.w) a (Yt lo)) ⟨⟨_,hd⟩,?_⟩;obtain⟨x,hle⟩:=(Ext.refl r).pushZ {cls:=.type "dict_items",data:=.fields #[.ref a]};exact Z7 x (O3 Zput.self (VRel.mono hle (show VRel X.prog X.w Z (.sdict ks l) (.ref a) from⟨a,us,rfl,lo,z,hl,hr⟩))) h
theorem CALL.svalues{ks:List Str}{l:List V}(h:P (.view false (.sdict ks l)) B):CALL X (.builtin "dict.values") [.sdict ks l] B P:=fun Z s vs r hvs=>by
 obtain⟨v,rfl,a,us,rfl,lo,z,hl,hr⟩:=vs1 hvs;have hd:=r.pdict z;refine call_meetsIn PySem.F.slot_dict_values hd.typeIs PySem.F.entry_dict_values (PySem.F.args_dict_values_1 _) (meets_dict_values (PySem.strKind X.prog X.w) a (Yt lo)) ⟨⟨_,hd⟩,?_⟩;obtain⟨x,hle⟩:=(Ext.refl r).pushZ {cls:=.type "dict_values",data:=.fields #[.ref a]};exact Z7 x (O3 Zput.self (VRel.mono hle (show VRel X.prog X.w Z (.sdict ks l) (.ref a) from⟨a,us,rfl,lo,z,hl,hr⟩))) h
theorem Qh{A:Around}{ks':List Str}{us':List Value}{ls':List Int}(hr':VsRel X.prog X.w Z (ls'.map V.int) us'):∀ {ks:List Str} {ls:List Int} {us:List Value},VsRel X.prog X.w Z (ls.map V.int) us->ks.length=ls.length->(∀ p ∈ ks.zip ls,vat ks' ls' p.1=some p.2)->KeqHits A s (ks'.zip us') (ks.zip us) true
 | [],_,_,_,_,_=>.nil
 | k::ks,[],us,_,h,_=>by contradiction
 | k::ks,l::ls,us,hr,h,hat=>by
  obtain⟨v,vs,rfl,⟨t,rfl⟩,hr2⟩:=hr;have h1:=hat (k,l) (by exact mem_cons_self)
  have h2:vat ks' (ls'.map V.int) k=some (V.int l):=by
   have:∀ (ks:List Str) (l:List Int),vat ks (l.map V.int) k=(vat ks l k).map V.int:=by
    intro ks
    induction ks with
    | nil=>intro l;rfl
    | cons a ks ih=>
     intro l;cases l with
     | nil=>rfl
     | cons b l=>
      rw[map_cons,Zd,Zd,ih];split <;> rfl
   rw[this,h1];rfl
  obtain⟨u,hu,⟨t',rfl⟩⟩:=hr'.vat h2;have h3:=Qh (A:=A) hr' hr2 (by simpa using h) (fun p hp=>hat p (by exact mem_cons_of_mem _ (by assumption)));have:=KeqHits.hit (k:=k) (v:=.int l t) (vat_valueAt.trans hu) (EqAt.int_int (A:=A) (s:=s) l t l t') h3
  simpa using this
theorem CMP.eqDS{k:Nat}{ns:List Int}{ks ks':List Str}{ls ls':List Int}(hA:Rm X.A k)(hl:ks.length=ls.length)(hl':ks'.length=ls'.length)(hk:ks.length=ks'.length)(hat:∀ p ∈ ks.zip ls,vat ks' ls' p.1=some p.2)
  (h:P (.bool true) B):CMP X .Eq (.tup (ns.map V.int++[.sdict ks (ls.map V.int)])) (.tup (ns.map V.int++[.sdict ks' (ls'.map V.int)])) B P:=fun Z s v u r h1 h2=>by
 have hc:=hA.cl;have hz:=r.zin;obtain⟨a,its,m,rfl,z,hr⟩:=id h1;obtain⟨a',its',m',rfl,z',hr'⟩:=id h2;have t1:s.heap.IsTuple a its:=⟨_,hz _ _ z,rfl,_,rfl⟩
 have t2:s.heap.IsTuple a' its':=⟨_,hz _ _ z',rfl,_,rfl⟩
 have e1:its.size=ns.length + 1:=by have:=hr.length;simpa using this
 have e2:its'.size=ns.length + 1:=by have:=hr'.length;simpa using this
 have key:∀ j (h1:j < its.size) (h2:j < its'.size),EqW X.prog X.w X.A.in1 s its[j] its'[j]:=fun j j1 j2=>by
  by_cases hj:j < ns.length
  ·obtain⟨v1,q1,p1⟩:=hr.get (i:=j) (d:=V.int ns[j]) (by rw[List.getElem?_append_left (by simpa using hj)];simp[hj]);obtain⟨v2,q2,p2⟩:=hr'.get (i:=j) (d:=V.int ns[j]) (by rw[List.getElem?_append_left (by simpa using hj)];simp[hj]);obtain⟨t,rfl⟩:=p1;obtain⟨t',rfl⟩:=p2;have i1:its[j]=.int ns[j] t:=by simpa [j1] using q1
   have i2:its'[j]=.int ns[j] t':=by simpa [j2] using q2
   rw[i1,i2];have:=EqAt.int_int (A:=X.A.in1) (s:=s) ns[j] t ns[j] t';exact EqW.of (by simpa using this)
  ·have hj':j=ns.length:=le_antisymm (le_of_lt_succ (Nat.lt_of_lt_of_eq j1 e1)) (le_of_not_lt hj);subst hj';obtain⟨v1,q1,p1⟩:=hr.get (i:=ns.length) (d:=V.sdict ks (ls.map V.int)) (by rw[getElem?_append_right (by simp)];simp);obtain⟨v2,q2,p2⟩:=hr'.get (i:=ns.length) (d:=V.sdict ks' (ls'.map V.int)) (by rw[getElem?_append_right (by simp)];simp);obtain⟨b,us,rfl,lo,zd,hlen,hrd⟩:=p1;obtain⟨b',us',rfl,lo',zd',hlen',hrd'⟩:=p2;have i1:its[ns.length]=.ref b:=by simpa [j1] using q1
   have i2:its'[ns.length]=.ref b':=by simpa [j2] using q2
   rw[i1,i2]
   by_cases hb:b=b'
   ·subst hb;exact EqW.of (EqAt.same _)
   ·refine EqW.refs hb fun E Q hq=>?_;refine keq_eq (Yt lo) (Yt lo') (r.pdict zd) (r.pdict zd') (hA.clN (n:=1) (by decide)) (fun _=>Qh hrd' hrd hl hat) ?_
    have:((ks.zip us).length == (ks'.zip us').length && true)=true:=by
     rw[length_zip,length_zip,<- hlen,<- hlen'];simp[hk]
    rw[this];exact hq
 have T1:s.TypeIs (.ref a) "tuple" :=⟨_,hz _ _ z,rfl⟩
 have T2:s.TypeIs (.ref a') "tuple" :=⟨_,hz _ _ z',rfl⟩
 exact wpAny_richCompare_same_room (op:=.Eq) T1 T2 F.slot_tuple_eq (wpAny_call_entry F.slot_tuple_eq T1 F.entry_tuple_eq (Uy t1 t2 (e1.trans e2.symm) key ⟨_,rfl,(fun e=>nomatch e),Z7 (Ext.refl r) Zg h⟩) (F.args_tuple_eq_2 _ _)) (hA.clN (n:=0) (by decide))
theorem CVG.dcs{α:Type}{kx vx target iter:PySem.Expr}{ifs:List PySem.Expr}{scope:Scope}{pos:Pos}
  (h:EV X iter B (DCF X α Str .str kx vx target ifs scope P .sdict))
  (hok:Zc scope.names=true) (hfk:Y3 scope.names (B.cel.map (·.1)) (B.cap.map (·.1))=true) (hk:scope.kind=.function) (hs:∀ x,foldedSetIterable iter X.env x=pure x):
  CVG X (.DictComp kx vx [⟨target,iter,ifs,0⟩] scope pos) scope (firstIterPos [⟨target,iter,ifs,0⟩] pos) newDict iter B P:=
 CVG.dcg (c0:=.sdict [] []) (.inl rfl) (J.mono h fun _ _ h=>h.toG (cmk:=.sdict) (fun _ _ _ _ _ _ _ hl h=>IN.puts rfl hl h) fun _ _=>⟨rfl,rfl⟩) (fun _ h=>nomatch h) hok hfk hk hs
noncomputable def EVA(X:Cx)(pos:Pos)(es:List PySem.Expr)(B:St)(P:V->St->Prop):Prop:=J X (RV X) (boolOp pos .And (evalEach es X.env)) B P
theorem EV.andN{es pos}(h:EVA X pos es B P):EV X (.BoolOp .And es pos) B P:=fun Z s r=>h Z s r
theorem EVA.one{e pos}(h:EV X e B P):EVA X pos [e] B P:=fun Z s r=>h Z s r
theorem EVA.cons{e e2 es pos}(h:EV X e B fun d B1=>TRU X d B1 fun t B2=>if t then EVA X pos (e2::es) B2 P else ∃ _:B2=B1,P d B1):EVA X pos (e::e2::es) B P:=fun Z s R=>by
 show wpAny _ _ (do
  let v <- eval e X.env
  standAt pos
  let t <- holding [v] (truthy v)
  match BoolOp.And,t with
  | .And,false | .Or,true=>pure v
  | _,_=>boolOp pos .And (evalEach (e2::es) X.env)) _ _ _
 refine wpAny_bind (J.use h R fun Z1 s1 B1 d v x1 r1 h1=>wpAny_bind (wpAny_standAt (wpAny_bind (wpAny_holding (wpAny_mono (h1 Z1 s1 v x1.rel r1) (fun t s2 q=>?_) fun _ _ h=>h)))));obtain⟨Z2,B2,t',x2,rfl,h2⟩:=q;cases t' with
 | true=>exact J.after h2 (x1.trans x2)
 | false=>obtain⟨rfl,hp⟩:=h2;exact wpAny_pure (here (b:=d) (x1.trans x2) (r1.mono x2.le) hp)
theorem EV.dict1M{k v:PySem.Expr}{pos}(h:∀ a,EV X k {B with mem:=B.mem++[(a,.sdict [] [])]} fun d B1=>B1={B with mem:=B.mem++[(a,.sdict [] [])]} /\ ∃ i,d=.str i /\ EV X v B1 fun d2 B2=>B2={B with mem:=B.mem++[(a,.sdict [] [])]} /\ P (.ref a) {B with mem:=B.mem++[(a,.sdict [i] [d2])]}):EV X (.Dict [some k] [v] pos) B P:=fun Z s r=>by
 have x0:=(Ext.refl r).pushM {cls:=.type "dict",data:=.dict #[]} (c:=.sdict [] []) rfl ⟨[],Heap.DictOf.new _,rfl,rfl⟩;refine wpAny_Dict_pairs (knd:=PySem.strKind X.prog X.w) (pairs:=[(eval k X.env,do let x <- eval v X.env;standAt pos;pure x)]) rfl (by exact fun h=>nomatch h) (by exact succ_pos _) ?_;refine evalPairs_cons ?_;refine J.use (h s.heap.objs.size) x0.rel fun Z1 s1 B1 d1 v1 x1 r1 h1=>?_;obtain⟨rfl,i,rfl,h1⟩:=h1;refine wpAny_bind (J.use h1 x1.rel fun Z2 s2 B2 d2 v2 x2 r2 h2=>wpAny_bind (wpAny_standAt (wpAny_pure (evalPairs_nil ?_))));obtain⟨rfl,h2⟩:=h2;obtain⟨t,rfl⟩:=r1;have r3:=x2.rel;obtain⟨us,hd,hl,hr⟩:=r3.mem _ (mem_append_right _ (mem_singleton.mpr rfl));have hus:us=[]:=hr;subst hus;refine⟨[(i,v2)],⟨Pn,rfl,trivial⟩,hd,fun h' hd' hs'=>?_⟩;have x3:=(r3.setMem (mem':=B.mem++[(s.heap.objs.size,.sdict [i] [d2])]) (UpM.last B.mem) hs' (c:=.sdict [i] [d2]) ⟨[v2],by exact hd',rfl,v2,[],rfl,r2,rfl⟩).toks (tk:=s2.toks + 1);exact Z7 (((x0.trans x1).trans x2).trans x3) Yh h2
theorem EV.dict1{k v:PySem.Expr}{pos}(h:∀ a,EV X k {B with mem:=B.mem++[(a,.sdict [] [])]} fun d B1=>B1={B with mem:=B.mem++[(a,.sdict [] [])]} /\ ∃ i,d=.str i /\ EV X v B1 fun d2 B2=>B2={B with mem:=B.mem++[(a,.sdict [] [])]} /\ P (.sdict [i] [d2]) B):EV X (.Dict [some k] [v] pos) B P:=
 EV.frz (EV.dict1M fun a=>J.mono (h a) fun d B1 ⟨e,i,ed,h1⟩=>⟨e,i,ed,J.mono h1 fun d2 B2 ⟨e2,h2⟩=>⟨e2,a,_,B,_,⟨rfl,⟨_,Cut.last _,.rest⟩,FzE.refl _,FzE.refl _,rfl⟩,.at,h2⟩⟩)
theorem S1{l:List V}{k:Nat}(h:k ≤ l.length):X3 l none (some (k:Int)) none=l.take k:=by
 unfold X3
 have e:sliceBounds none (some (k:Int)) none l.length=(0,(k:Int),1):=by
  unfold sliceBounds;simp;rw[if_neg (Int.not_lt.mpr (natCast_nonneg k)),Int.min_eq_left (ofNat_le.mpr h),Int.max_eq_right (natCast_nonneg k)]
 rw[e];dsimp only
 have e2:sliceRange 0 (k:Int) 1=List.range k:=by
  unfold sliceRange;rw[if_pos (by decide)]
  by_cases h0:(0:Int) < (k:Int)
  ·rw[if_pos h0];have:((k:Int) - 0 + 1 - 1) / 1=(k:Int):=by simp
   rw[this];dsimp only;rw[toNat_natCast]
   conv=>rhs;rw[<- List.map_id (List.range k)]
   refine map_congr_left fun j _=>?_;simp
  ·rw[if_neg h0];have:k=0:=Nat.eq_zero_of_not_pos fun q=>h0 (ofNat_lt.mpr q);subst this;rfl
 rw[e2];clear e e2
 induction k with
 | zero=>simp
 | succ k ih=>
  rw[range_succ,List.filterMap_append,ih (le_of_succ_le h),List.take_succ];rfl
end
section
variable{prog:Program}{w:World}{A:Around}{E:Value->Shared->Prop}{h₀:Heap}{L:Addr}{m:Str->Option Value}{news:List (Addr × Obj)}{vs:List Value}{kz:List Int}{G:Shared->Prop}{s:Shared}
end
end Mine
end
section
open PySem PySem.Spec PySem.Calls PyProof.Rows PySem.W PySem.SeqAt Builtin Builtin.ObjectAttr
namespace Mine
section
variable{X:Cx}{B B':St}{Z Z':ZM}{s s':Shared}{P:V->St->Prop}
end
end Mine
end
section
open PySem PySem.Spec PySem.Calls PyProof.Rows PySem.W PySem.SeqAt
namespace Mine
section
variable{X:Cx}{B B':St}{Z Z':ZM}{s s':Shared}{P:V->St->Prop}
theorem CALL.isiIB{b:Int}(h:P (.bool false) B):CALL X (.builtin "isinstance") [.int b,.lit (.type "bool")] B P:=fun Z s vs r hvs=>by
 obtain⟨v,u,rfl,⟨t,rfl⟩,e'⟩:=vs2 hvs;cases e';exact PySem.IsiPair.int_bool (Z7 (Ext.refl r).toks Zg h)
theorem CALL.isiII{b:Int}(h:P (.bool true) B):CALL X (.builtin "isinstance") [.int b,.lit (.type "int")] B P:=fun Z s vs r hvs=>by
 obtain⟨v,u,rfl,⟨t,rfl⟩,e'⟩:=vs2 hvs;cases e';exact PySem.IsiPair.int_int (Z7 (Ext.refl r).toks Zg h)
end
section
variable{X:Cx}{B B':St}{Z Z':ZM}{s s':Shared}{P:V->St->Prop}{target:PySem.Expr}
end
section
variable{X:Cx}{B B':St}{Z Z':ZM}{s s':Shared}{P:V->St->Prop}
theorem Ext.perm(r:Rel X B Z s){m':List (Addr × Cell)}(h:m'.Perm B.mem):Ext X B Z s {B with mem:=m'} Z s:=by
 have hk:(keys m').Perm (keys B.mem):=h.map _;have hf:(Z0 X {B with mem:=m'}).Perm (Z0 X B):=.cons _ (.append (.refl _) hk)
 refine⟨⟨⟨r.fr.lnd,r.fr.lk,r.fr.ck,r.fr.cnd,r.fr.cinj,r.fr.pk,r.fr.dbg,r.fr.kind⟩,r.zin,r.st,r.ztab,r.old,r.os,r.gens,r.ns,r.cells,r.cap,r.ownc,fun p hp=>r.mem p (h.mem_iff.mp hp),hf.nodup_iff.mpr r.nd,fun a ha=>r.zfoot a (hf.mem_iff.mp ha),fun a ha=>r.bfoot a (hf.mem_iff.mp ha),fun a ha=>r.ex a (hf.mem_iff.mp ha),r.g3,fun a ha=>r.low a (hk.mem_iff.mp ha)⟩,
  fun _ _ e=>e,fun _ _ e _ _=>e,fun a ha=>.inl (hk.mem_iff.mp ha),fun _ _ e=>.inl e⟩
theorem CALL.perm{f:Value}{ds:List V}{m':List (Addr × Cell)}(h:m'.Perm B.mem)(q:CALL X f ds {B with mem:=m'} P):CALL X f ds B P:=fun Z s vs r hv=>by
 have x:=Ext.perm r h;exact wpAny_mono (q Z s vs x.rel hv) (fun _ _ w=>w.lift x) fun _ _ h=>h
end
section
variable{prog:Program}{w:World}{A:Around}{E:Value->Shared->Prop}{s:Shared}
theorem S3{it t:Addr}{i:Nat}{xs:Array Value}{x:Value}{Q:Value->Shared->Prop}(hit:s.heap.IsTupleIter it t i)(ht:s.heap.IsTuple t xs)(hx:xs[i]?=some x)
  (hQ:∀ h',h'.IsTupleIter it t (i + 1)->Heap.SameBut it s.heap h'->Q x {s with heap:=h'}):wpAny (model prog w) A (Builtin.SmallTypes.nextOf (.ref it)) Q E s:=by
 obtain⟨o,ho,hc,hd⟩:=id hit;obtain⟨ot,hot,_,nt,hdt⟩:=ht
 delta Builtin.SmallTypes.nextOf
 refine wpAny_bind (wpAny_callSpecial?_slot (name:=Str.ofString "__next__") hit.typeIs F.slot_tuple_iterator_next
  (wpAny_call_entry F.slot_tuple_iterator_next hit.typeIs F.entry_tuple_iterator_next ?_ (F.args_tuple_iterator_next_1 _)))
 show wpAny _ _ (field (.ref it) 0 >>= _) _ _ s;refine wpAny_bind (wpAny_field ho hd (x:=.ref t) rfl ?_);rw[if_neg (show ¬ ((Value.ref t == Value.none)=true) from Bool.false_ne_true)];refine wpAny_bind (wpAny_field ho hd (x:=.int i 0) rfl ?_);refine wpAny_bind (wpAny_seqItems hot hdt ?_);simp only[toNat_natCast,hx];refine wpAny_bind (wpAny_setField ho hd (lt_succ_self 1) (wpAny_pure ⟨x,rfl,wpAny_pure (hQ _ ?_ (Heap.SameBut.update ..))⟩));exact⟨_,get?_update_self _ ho (Obj.isFreed_of_fields (Obj.data_mapFields hd _)),(Obj.cls_mapFields ..).trans hc,by rw[Obj.data_mapFields hd];rfl⟩
theorem N8{it t:Addr}{i:Nat}{xs:Array Value}{Q:Value->Shared->Prop}(hh:A.handled=none)(hit:s.heap.IsTupleIter it t i)(ht:s.heap.IsTuple t xs)(hx:xs[i]?=none)
  (hE:∀ h' e,Heap.ExtBut it s.heap h'->(∃ o,h'.get? e=some o /\ o.cls=.type "StopIteration")->E (.ref e) {s with heap:=h'}):wpAny (model prog w) A (Builtin.SmallTypes.nextOf (.ref it)) Q E s:=by
 obtain⟨o,ho,hc,hd⟩:=id hit;obtain⟨ot,hot,_,nt,hdt⟩:=ht
 delta Builtin.SmallTypes.nextOf
 refine wpAny_bind (wpAny_callSpecial?_slot (name:=Str.ofString "__next__") hit.typeIs F.slot_tuple_iterator_next
  (wpAny_call_entry F.slot_tuple_iterator_next hit.typeIs F.entry_tuple_iterator_next ?_ (F.args_tuple_iterator_next_1 _)))
 show wpAny _ _ (field (.ref it) 0 >>= _) _ _ s;refine wpAny_bind (wpAny_field ho hd (x:=.ref t) rfl ?_);rw[if_neg (show ¬ ((Value.ref t == Value.none)=true) from Bool.false_ne_true)];refine wpAny_bind (wpAny_field ho hd (x:=.int i 0) rfl ?_);refine wpAny_bind (wpAny_seqItems hot hdt ?_);simp only[toNat_natCast,hx];refine wpAny_bind (wpAny_rule (wpAny_bind (wpAny_setField ho hd (zero_lt_succ 1) ?_)));refine wpAny_bind ?_
 delta newExc newTuple
 refine wpAny_bind (wpAny_newObj_type ?_ (by size_fits));refine wpAny_bind (m:=firstArgMember _ _) (wpAny_of_eq (a:=Value.none) rfl ?_);refine wpAny_newObj_type ?_ (by size_fits)
 delta raiseNew
 refine wpAny_bind (wpAny_handled ?_)
 first | rw[show A.in1.handled=none from hh] | rw[hh]
 refine wpAny_bind (wpAny_pure (wpAny_throw ?_));exact hE _ _ (((Heap.SameBut.update ..).extBut.push _).push _) ⟨_,get?_push_size _ rfl,rfl⟩
variable{z TI TO i1 i2 t1 t2:Addr}{xs ys:Array Value}
noncomputable def ZT(z TI TO i1 i2 t1 t2:Addr)(xs ys:Array Value)(f0:Value)(k:Nat)(h:Heap):Prop:=
 IsZip h z TI TO f0 /\ IsPair h TI (.ref i1) (.ref i2) /\ (∃ a b,IsPair h TO a b) /\ h.IsTupleIter i1 t1 k /\ h.IsTupleIter i2 t2 k /\ h.IsTuple t1 xs /\ h.IsTuple t2 ys
theorem ZT.keep{f0:Value}{k:Nat}{h h':Heap}(st:ZT z TI TO i1 i2 t1 t2 xs ys f0 k h)(hk:∀ b ∈ [z,TI,TO,i1,i2,t1,t2],∀ o,h.get? b=some o->h'.get? b=some o):ZT z TI TO i1 i2 t1 t2 xs ys f0 k h':=by
 obtain⟨hz,hTI,⟨a,b,hTO⟩,h1,h2,hl1,hl2⟩:=st;have at':∀ {c:Addr} {P:Obj->Prop},c ∈ [z,TI,TO,i1,i2,t1,t2]->(∃ o,h.get? c=some o /\ P o)->∃ o,h'.get? c=some o /\ P o:=fun hc ⟨o,e,r⟩=>⟨o,hk _ hc o e,r⟩
 exact⟨hk z (by simp) _ hz,hk TI (by simp) _ hTI,⟨a,b,hk TO (by simp) _ hTO⟩,at' (by simp) h1,at' (by simp) h2,at' (by simp) hl1,at' (by simp) hl2⟩
theorem Ou{k:Nat}{x y:Value}{Q:Value->Shared->Prop}(D:ZipApart z TI TO i1 i2 t1 t2)(st:ZT z TI TO i1 i2 t1 t2 xs ys .none k s.heap)(hx:xs[k]?=some x)(hy:ys[k]?=some y)
  (hQ:∀ h',ZT z TI TO i1 i2 t1 t2 xs ys (rawInt s.heap.objs.size) (k + 1) h'->IsPair h' s.heap.objs.size x y->
   (∀ c o,c ∉ [z,TO,i1,i2]->s.heap.get? c=some o->h'.get? c=some o)->Q (.ref s.heap.objs.size) {s with heap:=h'}):
  wpAny (model prog w) A (Builtin.«zip.__next__» ⟨[.ref z],[]⟩) (fun fin s'=>∃ v,fin=.done (.ret v) /\ Q v s') E s:=by
 obtain⟨hz,hTI,⟨a,b,hTO⟩,h1,h2,hl1,hl2⟩:=st;show wpAny _ _ (field (.ref z) 2 >>= _) _ _ _;refine wpAny_bind (wpAny_field hz rfl (x:=.bool false) rfl ?_);refine wpAny_bind (wpAny_field hz rfl (x:=.ref TI) rfl ?_);refine wpAny_bind (wpAny_seqItems hTI rfl ?_);refine wpAny_bind ?_
 delta Builtin.SmallTypes.ownedTupleIsFree
 refine wpAny_bind (wpAny_field hz rfl (x:=.none) rfl (wpAny_pure ?_));rw[if_pos rfl];refine wpAny_bind (wpAny_rule ?_);refine wpAny_bind (wpAny_field hz rfl (x:=.ref TO) rfl ?_);refine wpAny_bind (wpAny_setField_rec hz (zero_lt_succ 4) fun ha hza sa=>?_);have hza:IsZip ha z TI TO .ellipsis:=hza;refine wpAny_bind ?_;simp only[List.zipIdx_cons,List.zipIdx_nil,forIn_cons,forIn_nil];refine wpAny_bind (wpAny_bind (wpAny_onRaise ?_));refine wpAny_bind (S3 (h1.extBut sa.extBut D.i1z) (hl1.extBut sa.extBut D.l1z) hx fun hb h1b sb=>wpAny_pure ?_);have hTOb:IsPair hb TO a b:=sb.extBut _ _ D.TOi1 (sa.extBut _ _ D.TOz hTO);refine wpAny_bind (wpAny_seqItems hTOb rfl ?_);refine wpAny_bind (wpAny_updateSeq_pair hTOb fun hc hTOc sc=>?_);have hTOc:IsPair hc TO x b:=hTOc;refine wpAny_bind (wpAny_letGo (wpAny_pure ?_));refine wpAny_bind (wpAny_bind (wpAny_onRaise ?_))
 refine wpAny_bind (S3 (((h2.extBut sa.extBut D.i2z).extBut sb.extBut D.i12.symm).extBut sc.extBut D.TOi2.symm)
  (((hl2.extBut sa.extBut D.l2z).extBut sb.extBut D.l2i1).extBut sc.extBut D.l2TO) hy fun hd h2d sd=>wpAny_pure ?_)
 have hTOd:IsPair hd TO x b:=sd.extBut _ _ D.TOi2 hTOc;refine wpAny_bind (wpAny_seqItems hTOd rfl ?_);refine wpAny_bind (wpAny_updateSeq_pair hTOd fun he hTOe se=>?_);have hTOe:IsPair he TO x y:=hTOe;refine wpAny_bind (wpAny_letGo (wpAny_pure (wpAny_pure ?_)));refine wpAny_bind (wpAny_seqItems hTOe rfl ?_);refine wpAny_bind (wpAny_newTuple ?_);have hsz:he.objs.size=s.heap.objs.size:=by rw[se.1,sd.1,sc.1,sb.1,sa.1]
 have hze:IsZip he z TI TO .ellipsis:=se.extBut _ _ D.TOz.symm (sd.extBut _ _ D.i2z.symm (sc.extBut _ _ D.TOz.symm (sb.extBut _ _ D.i1z.symm hza)))
 have hke:∀ c o,c ∉ [z,TO,i1,i2]->s.heap.get? c=some o->he.get? c=some o:=fun c o hm e=>by
  have c1:c ≠ z:=fun q=>hm (by simp[q]);have c2:c ≠ TO:=fun q=>hm (by simp[q]);have c3:c ≠ i1:=fun q=>hm (by simp[q]);have c4:c ≠ i2:=fun q=>hm (by simp[q]);exact se.extBut _ _ c2 (sd.extBut _ _ c4 (sc.extBut _ _ c2 (sb.extBut _ _ c3 (sa.extBut _ _ c1 e))))
 have h1e:he.IsTupleIter i1 t1 (k + 1):=((h1b.extBut sc.extBut D.TOi1.symm).extBut sd.extBut D.i12).extBut se.extBut D.TOi1.symm;have h2e:he.IsTupleIter i2 t2 (k + 1):=h2d.extBut se.extBut D.TOi2.symm;have hzlt:z < he.objs.size:=lt_size hze;refine wpAny_bind ?_
 delta Builtin.SmallTypes.ownedTupleHandOut
 have hzf:IsZip (he.push {cls:=.type "tuple",data:=.seq #[x,y]}) z TI TO .ellipsis:=get?_push_of_some _ hze;refine wpAny_bind (wpAny_setField_rec hzf (zero_lt_succ 4) fun hg hzg sg=>?_);have hzg:IsZip hg z TI TO (rawInt he.objs.size):=hzg;refine wpAny_setField_rec hzg (Nat.succ_lt_succ (zero_lt_succ 3)) fun hj hzj sj=>?_;have hzj:IsZip hj z TI TO (rawInt he.objs.size):=hzj;have up:∀ c o,c ≠ z->he.get? c=some o->hj.get? c=some o:=fun c o c1 e=>sj.extBut _ _ c1 (sg.extBut _ _ c1 (get?_push_of_some _ e));have hT:IsPair hj he.objs.size x y:=sj.extBut _ _ (ne_of_gt hzlt) (sg.extBut _ _ (ne_of_gt hzlt) (get?_push_size _ rfl));rw[hsz] at hzj hT;refine wpAny_pure ⟨_,rfl,?_⟩;rw[hsz];have tup:∀ {c:Addr} {P:Obj->Prop},c ∉ [z,TO,i1,i2]->c ≠ z->(∃ o,s.heap.get? c=some o /\ P o)->∃ o,hj.get? c=some o /\ P o:=fun hm hc ⟨o,e,r⟩=>⟨o,up _ _ hc (hke _ _ hm e),r⟩
 refine hQ hj ⟨hzj,up _ _ D.TIz (hke _ _ (by simp[D.TIz,D.TITO,D.TIi1,D.TIi2]) hTI),⟨x,y,up _ _ D.TOz hTOe⟩,?_,?_,tup (by simp[D.l1z,D.l1TO,D.l1i1,D.l1i2]) D.l1z hl1,tup (by simp[D.l2z,D.l2TO,D.l2i1,D.l2i2]) D.l2z hl2⟩ hT fun c o hm e=>up _ _ (fun q=>hm (by simp[q])) (hke c o hm e)
 ·obtain⟨o,e,r⟩:=h1e;exact⟨o,up _ _ D.i1z e,r⟩
 ·obtain⟨o,e,r⟩:=h2e;exact⟨o,up _ _ D.i2z e,r⟩
theorem Np{k:Nat}{Q:Fin->Shared->Prop}(hh:A.handled=none)(D:ZipApart z TI TO i1 i2 t1 t2)(st:ZT z TI TO i1 i2 t1 t2 xs ys .none k s.heap)(hx:xs[k]?=none)
  (hE:∀ h' e,(∀ c o,c ∉ [z,TO,i1,i2]->s.heap.get? c=some o->h'.get? c=some o)->(∃ o,h'.get? e=some o /\ o.cls=.type "StopIteration")->E (.ref e) {s with heap:=h'}):
  wpAny (model prog w) A (Builtin.«zip.__next__» ⟨[.ref z],[]⟩) Q E s:=by
 obtain⟨hz,hTI,⟨a,b,hTO⟩,h1,h2,hl1,hl2⟩:=st;show wpAny _ _ (field (.ref z) 2 >>= _) _ _ _;refine wpAny_bind (wpAny_field hz rfl (x:=.bool false) rfl ?_);refine wpAny_bind (wpAny_field hz rfl (x:=.ref TI) rfl ?_);refine wpAny_bind (wpAny_seqItems hTI rfl ?_);refine wpAny_bind ?_
 delta Builtin.SmallTypes.ownedTupleIsFree
 refine wpAny_bind (wpAny_field hz rfl (x:=.none) rfl (wpAny_pure ?_));rw[if_pos rfl];refine wpAny_bind (wpAny_rule ?_);refine wpAny_bind (wpAny_field hz rfl (x:=.ref TO) rfl ?_);refine wpAny_bind (wpAny_setField_rec hz (zero_lt_succ 4) fun ha hza sa=>?_);have hza:IsZip ha z TI TO .ellipsis:=hza;refine wpAny_bind ?_;simp only[List.zipIdx_cons,List.zipIdx_nil,forIn_cons,forIn_nil];refine wpAny_bind (wpAny_bind (wpAny_onRaise ?_));refine wpAny_bind (N8 hh (h1.extBut sa.extBut D.i1z) (hl1.extBut sa.extBut D.l1z) hx fun hb e sb he=>?_);obtain⟨oe,hoe,hce⟩:=he;have hzb:IsZip hb z TI TO .ellipsis:=sb _ _ D.i1z.symm hza;have hez:e ≠ z:=fun q=>by subst q;rw[hzb] at hoe;cases hoe;simp at hce
 refine wpAny_setField_rec hzb (zero_lt_succ 4) fun hc _ sc=>hE hc e (fun c o hm x=>sc.extBut _ _ (fun q=>hm (by simp[q])) (sb _ _ (fun q=>hm (by simp[q])) (sa.extBut _ _ (fun q=>hm (by simp[q])) x))) ⟨oe,sc.extBut _ _ hez hoe,hce⟩
theorem P0(hh:A.handled=none)(D:ZipApart z TI TO i1 i2 t1 t2)(hl:xs.size=ys.size):WalksU prog w A z [z,TI,TO,i1,i2,t1,t2] [z,TO,i1,i2] xs.size
  (fun i vals=>∃ x y,xs[i]?=some x /\ ys[i]?=some y /\ vals=#[x,y]) (ZT z TI TO i1 i2 t1 t2 xs ys .none)
  (fun i T h=>ZT z TI TO i1 i2 t1 t2 xs ys (rawInt T) (i + 1) h /\ T ∉ [z,TO,i1,i2]) where
 sub:=fun c hc=>by simp at hc ⊢;rcases hc with rfl | rfl | rfl | rfl <;> simp
 frame:=fun i h h' st hk=>st.keep hk
 item:=fun i s Q E hi st hQ=>by
  have hT:s.TypeIs (.ref z) "zip" :=⟨_,st.1,rfl⟩
  have lt:s.heap.objs.size ∉ [z,TO,i1,i2]:=fun hm=>by
   obtain⟨hz,_,⟨_,_,hTO⟩,⟨_,h1,_⟩,⟨_,h2,_⟩,_⟩:=id st;simp only[mem_cons,not_mem_nil,or_false] at hm;rcases hm with q | q | q | q
   ·exact lt_irrefl _ (q ▸ lt_size hz)
   ·exact lt_irrefl _ (q ▸ lt_size hTO)
   ·exact lt_irrefl _ (q ▸ lt_size h1)
   ·exact lt_irrefl _ (q ▸ lt_size h2)
  delta pyNext
  refine wpAny_bind (wpAny_attempt (wpAny_callSpecial?_slot (name:=Str.ofString "__next__") hT F.slot_zip_next (wpAny_call_entry F.slot_zip_next hT F.entry_zip_next
   (Ou (x:=xs[i]) (y:=ys[i]) D st (Array.getElem?_eq_getElem hi) (Array.getElem?_eq_getElem (hl ▸ hi)) fun h' a1 a2 hk=>wpAny_pure (hQ s.heap.objs.size #[xs[i],ys[i]] h' s.toks ⟨_,_,Array.getElem?_eq_getElem hi,Array.getElem?_eq_getElem (hl ▸ hi),rfl⟩ ⟨_,a2,rfl,_,rfl⟩ ⟨a1,lt⟩ fun c o hc e=>hk c o hc e)) (F.args_zip_next_1 _))))
 go:=fun elts k pos i T s Q E hm hQ=>by
  obtain⟨⟨hz,hTI,⟨a,b,hTO⟩,h1,h2,hl1,hl2⟩,_⟩:=hm
  exact wpAny_letOwnedTupleGo_zip hz fun h' hz' hs'=>hQ h' ⟨hz',hs'.extBut _ _ D.TIz hTI,⟨a,b,hs'.extBut _ _ D.TOz hTO⟩,h1.extBut hs'.extBut D.i1z,h2.extBut hs'.extBut D.i2z,
   hl1.extBut hs'.extBut D.l1z,hl2.extBut hs'.extBut D.l2z⟩ fun c o hc e=>hs'.extBut _ _ (fun q=>hc (by simp[q])) e
 apart:=fun i T h hm=>hm.2
 done:=fun s Q E st hQ=>by
  have hT:s.TypeIs (.ref z) "zip" :=⟨_,st.1,rfl⟩
  delta pyNext
  refine wpAny_bind (wpAny_attempt (wpAny_callSpecial?_slot (name:=Str.ofString "__next__") hT F.slot_zip_next (wpAny_call_entry F.slot_zip_next hT F.entry_zip_next
   (Np hh D st (Array.getElem?_eq_none (le_refl _)) fun h' e hk he=>?_) (F.args_zip_next_1 _))))
  obtain⟨o,ho,hc⟩:=he;refine wpAny_bind (wpAny_isInstance (T:= "StopIteration") (b:=true) ⟨o,ho,hc⟩ isSubtype_stop ?_);exact wpAny_pure (hQ _ s.toks hk)
 self:=fun i s Q E st hQ=>wpAny_pyIter_zip st.1 hQ
noncomputable def zT1(h:Heap)(t1:Addr):Heap:=h.push {cls:=.type "tuple_iterator",data:=.fields #[.ref t1,.int 0 0]}
noncomputable def zT2(h:Heap)(t1 t2:Addr):Heap:=(zT1 h t1).push {cls:=.type "tuple_iterator",data:=.fields #[.ref t2,.int 0 0]}
noncomputable def zT3(h:Heap)(t1 t2:Addr):Heap:=(zT2 h t1 t2).push {cls:=.type "tuple",data:=.seq #[.ref h.objs.size,.ref (zT1 h t1).objs.size]}
noncomputable def zT4(h:Heap)(t1 t2:Addr):Heap:=(zT3 h t1 t2).push {cls:=.type "tuple",data:=.seq #[.none,.none]}
noncomputable def zT5(h:Heap)(t1 t2:Addr):Heap:=(zT4 h t1 t2).push {cls:=.type "zip",data:=.fields #[.none,.bool false,.bool false,.ref (zT2 h t1 t2).objs.size,.ref (zT3 h t1 t2).objs.size]}
theorem Pe(t1 t2:Addr)(xs ys:Array Value):Meets (Builtin.«zip.__new__» ⟨[.type "zip",.ref t1,.ref t2],[]⟩) (fun _ R s=>s.heap.IsTuple t1 xs /\ s.heap.IsTuple t2 ys /\ R (.ok (.ret (.ref (zT4 s.heap t1 t2).objs.size))) {s with heap:=zT5 s.heap t1 t2}):=
 .of_wp fun prog w A R s h=>by
  obtain⟨hp,g,d,tk,os⟩:=s;obtain⟨hl1,hl2,h⟩:=h;have hsub:=sub_zip;have hL1:Heap.IsTuple (Shared.heap ⟨hp,g,d,tk,os⟩) t1 xs:=hl1;have hL2:Heap.IsTuple (Shared.heap ⟨hp.push {cls:=.type "tuple_iterator",data:=.fields #[.ref t1,.int 0 0]},g,d,tk,os⟩) t2 ys:=Heap.IsTuple.push hl2 _
  wp_walk using wpAny_pyIter_tuple hL1,wpAny_pyIter_tuple hL2
  exact⟨_,rfl,h⟩
theorem Nk(h1:s.heap.IsTuple t1 xs)(h2:s.heap.IsTuple t2 ys){Q:Value->Shared->Prop}
  (h:∀ h',ZT (s.heap.objs.size + 4) (s.heap.objs.size + 2) (s.heap.objs.size + 3) s.heap.objs.size (s.heap.objs.size + 1) t1 t2 xs ys .none 0 h'->h'.objs.size=s.heap.objs.size + 5->
   (∀ c o,s.heap.get? c=some o->h'.get? c=some o)->Q (.ref (s.heap.objs.size + 4)) {s with heap:=h'}):wpAny (model prog w) A (call (.type "zip") [.ref t1,.ref t2]) Q E s:=by
 refine callType_new F.called_zip (by decide) (F.typeCall_zip_2 _ _) (F.newCall_zip_2 _ _) (fun obj=>F.args_object_init_3 obj _ _) F.entry_zip_new (Pe t1 t2 xs ys) ⟨h1,h2,?_⟩;have z1:(zT1 s.heap t1).objs.size=s.heap.objs.size + 1:=size_push ..;have z2:(zT2 s.heap t1 t2).objs.size=s.heap.objs.size + 2:=(size_push ..).trans (congrArg (· + 1) z1);have z3:(zT3 s.heap t1 t2).objs.size=s.heap.objs.size + 3:=(size_push ..).trans (congrArg (· + 1) z2);have z4:(zT4 s.heap t1 t2).objs.size=s.heap.objs.size + 4:=(size_push ..).trans (congrArg (· + 1) z3);have z5:(zT5 s.heap t1 t2).objs.size=s.heap.objs.size + 5:=(size_push ..).trans (congrArg (· + 1) z4);have up:∀ {c o},(zT2 s.heap t1 t2).get? c=some o->(zT5 s.heap t1 t2).get? c=some o:=fun e=>get?_push_of_some _ (get?_push_of_some _ (get?_push_of_some _ e));have kp:∀ c o,s.heap.get? c=some o->(zT5 s.heap t1 t2).get? c=some o:=fun c o e=>up (get?_push_of_some _ (get?_push_of_some _ e));have g5:(zT5 s.heap t1 t2).get? (zT4 s.heap t1 t2).objs.size=some _:=get?_push_size _ rfl;have g4:(zT5 s.heap t1 t2).get? (zT3 s.heap t1 t2).objs.size=some _:=get?_push_of_some _ (get?_push_size _ rfl);have g3:(zT5 s.heap t1 t2).get? (zT2 s.heap t1 t2).objs.size=some _:=get?_push_of_some _ (get?_push_of_some _ (get?_push_size _ rfl));have g2:(zT5 s.heap t1 t2).get? (zT1 s.heap t1).objs.size=some _:=up (get?_push_size _ rfl);have g1:(zT5 s.heap t1 t2).get? s.heap.objs.size=some _:=up (get?_push_of_some _ (get?_push_size _ rfl));rw[z2,z3,z4] at g5;rw[z1,z2] at g3;rw[z3] at g4;rw[z1] at g2;rw[z4];have tup:∀ {c:Addr} {P:Obj->Prop},(∃ o,s.heap.get? c=some o /\ P o)->∃ o,(zT5 s.heap t1 t2).get? c=some o /\ P o:=fun⟨o,e,r⟩=>⟨o,kp _ _ e,r⟩
 exact⟨⟨_,g5,rfl⟩,h _ ⟨g5,g3,⟨_,_,g4⟩,⟨_,g1,rfl,rfl⟩,⟨_,g2,rfl,rfl⟩,tup h1,tup h2⟩ z5 kp⟩
end
noncomputable def Xm(pos:Pos)(o:Obj):Prop:=∃ q:Array Value,o=tabObj q /\ (q=#[] \/ ∃ c',q=#[rawInt pos.line,rawInt pos.col,c'])
section
variable{M:Model}{A:Around}{E:Value->Shared->Prop}{s:Shared}
theorem Kj{env:Env}{c Pt:Addr}{o:Obj}{pos:Pos}{qn:Str}{scope:Scope}{Q:Value->Shared->Prop}(hcode:env.code=.ref c)(hC:CodeHd s.heap c Pt)(ho:s.heap.get? Pt=some o)(hg:Xm pos o)
  (hQ:∀ code h' tk,(∀ b o,b ≠ Pt->s.heap.get? b=some o->h'.get? b=some o)->(∃ o,h'.get? Pt=some o /\ Xm pos o)->Q code {s with heap:=h',toks:=tk}):wpAny M A (genexprCode env pos qn scope) Q E s:=by
 obtain⟨q,rfl,hq⟩:=hg;rcases hq with rfl | ⟨c',rfl⟩
 ·exact wpAny_genexprCodeX hcode (hC.code ho trivial) (hC.tab ho) rfl fun c' h' tk hx _ _ _ _ ht _=>hQ _ h' tk hx ⟨_,ht.2,_,rfl,.inr ⟨_,rfl⟩⟩
 ·exact wpAny_genexprCode_hit hcode (hC.code ho trivial) (c':=c') (by show(if (((pos.line:Int) == (pos.line:Int)) && ((pos.col:Int) == (pos.col:Int)))=true then some c' else none)=some c';rw[if_pos (by simp)]) (hQ _ s.heap s.toks (fun _ _ _ e=>e) ⟨_,ho,_,rfl,.inr ⟨_,rfl⟩⟩)
end
theorem UpM.same{a:Addr}{c:Cell}:∀ {l:List (Addr × Cell)},(a,c) ∈ l->UpM a c l l
 | p::l,h=>by
  rcases mem_cons.mp h with rfl | h
  ·exact .head
  ·exact .tail (UpM.same h)
section
variable{X:Cx}{B B':St}{Z Z':ZM}{s s':Shared}{P:V->St->Prop}
theorem Ext.gens{g:Array GenState}(x:Ext X B Z s B' Z' s')(hg:AllBare g):Ext X B Z s B' Z' {s' with gens:=g}:=
 ⟨⟨x.rel.fr,x.rel.zin,x.rel.st,x.rel.ztab,x.rel.old,x.rel.os,hg,x.rel.ns,x.rel.cells,x.rel.cap,x.rel.ownc,x.rel.mem,x.rel.nd,x.rel.zfoot,x.rel.bfoot,x.rel.ex,x.rel.g3,x.rel.low⟩,x.le,x.keep,x.new,x.znew⟩
theorem VsRel.intAt{prog:Program}{w:World}{Z:ZM}{l:List Int}{vs:List Value}(h:VsRel prog w Z (l.map V.int) vs){i:Nat}{v:Value}(e:vs[i]?=some v):∃ a t,l[i]?=some a /\ v=.int a t:=by
 have hl:=h.length;rw[length_map] at hl;have hi:i < l.length:=hl ▸ (List.getElem?_eq_some_iff.mp e).1;obtain⟨u,hu,t,rfl⟩:=h.get (i:=i) (d:=.int l[i]) (Um hi);rw[hu] at e;cases e;exact⟨_,t,getElem?_eq_getElem hi,rfl⟩
theorem ET.or2{e1 e2 pos}{b1 b2:Bool}{Q:Bool->St->Prop}(h1:ET X e1 B fun c B1=>c=b1 /\ B1=B)(h2:ET X e2 B fun c B1=>c=b2 /\ B1=B)(h:Q (b1 || b2) B):ET X (.BoolOp .Or [e1,e2] pos) B Q:=by
 refine ET.bool (AT.orCons (J.mono h1 fun c B1 q=>?_));obtain⟨rfl,rfl⟩:=q;cases c with
 | true=>exact h
 | false=>
  refine AT.orCons (J.mono h2 fun c B1 q=>?_);obtain⟨rfl,rfl⟩:=q;cases c with
  | true=>exact h
  | false=>exact AT.orNil h
theorem ET.and2{e1 e2 pos}{b1 b2:Bool}{Q:Bool->St->Prop}(h1:ET X e1 B fun c B1=>c=b1 /\ B1=B)(h2:ET X e2 B fun c B1=>c=b2 /\ B1=B)(h:Q (b1 && b2) B):ET X (.BoolOp .And [e1,e2] pos) B Q:=by
 refine ET.bool (AT.andCons (J.mono h1 fun c B1 q=>?_));obtain⟨rfl,rfl⟩:=q;cases c with
 | false=>exact h
 | true=>
  refine AT.andCons (J.mono h2 fun c B1 q=>?_);obtain⟨rfl,rfl⟩:=q;cases c with
  | false=>exact h
  | true=>exact AT.andNil h
theorem EV.ife2{t b o pos}{c:Bool}{d1 d2:V}(h1:ET X t B fun c' B1=>c'=c /\ B1=B)(h2:EV X b B fun d B1=>d=d1 /\ B1=B)(h3:EV X o B fun d B1=>d=d2 /\ B1=B)(h:P (if c then d1 else d2) B):EV X (.IfExp t b o pos) B P:=by
 refine EV.ife (J.mono h1 fun c' B1 q=>?_);obtain⟨rfl,rfl⟩:=q;cases c' with
 | false=>refine(if_neg Bool.false_ne_true).mpr ?_;refine J.mono h3 fun d B1 q=>?_;obtain⟨rfl,rfl⟩:=q;exact h
 | true=>refine(if_pos rfl).mpr ?_;refine J.mono h2 fun d B1 q=>?_;obtain⟨rfl,rfl⟩:=q;exact h
theorem Oi{p:Prop}[Decidable p]{α:Type}(f:Int->α)(a b:Int):(if decide p=true then f a else f b)=f (if p then a else b):=by
 by_cases h:p
 ·rw[if_pos h,if_pos (decide_eq_true h)]
 ·rw[if_neg h,if_neg fun q=>h (of_decide_eq_true q)]
theorem CALL.isiTT{l:List V}(h:P (.bool true) B):CALL X (.builtin "isinstance") [.tup l,.lit (.type "tuple")] B P:=fun Z s vs r hvs=>by
 obtain⟨v,u,rfl,⟨a,its,n,rfl,z,_⟩,e'⟩:=vs2 hvs;cases e';exact PySem.IsiPair.tuple_tuple (r.zin _ _ z) rfl (Z7 (Ext.refl r) Zg h)
inductive ZGl(h:Heap):Prop
 | mk (lim:h.NoLimit) (mg:Str->Option Value) (bm:Addr) (ob:Obj) (b0:h.Ns mainGlobals mg) (b1:mg "__builtins__" =some (.ref bm)) (b2:bm ≠ builtinsNs) (b4:h.get? bm=some ob) (b5:ob.cls=.type "module") (b6:ob.dict=some builtinsNs) (b7:ob.data=.plain)
theorem ZGl.lim{h:Heap}(g:ZGl h):h.NoLimit:=by cases g;assumption
theorem ZGl.bi{M:Model}{A:Around}{E:Value->Shared->Prop}{s:Shared}{b g:Addr}{Q:Addr->Shared->Prop}(z:ZGl s.heap)(hg:g=mainGlobals)(hQ:Q builtinsNs s):wpAny M A (builtinsFor g b) Q E s:=by
 cases z with
 | mk lim mg bm ob b0 b1 b2 b4 b5 b6 b7=>exact wpAny_builtinsFor (hg ▸ b0) b1 b2 b4 b5 b6 b7 hQ
structure ZMid(c Pt:Addr)(pos:Pos)(xs ys:List Int)(n ta tb:Addr)(ia ib:Array Value)(s3 s4:Shared):Prop where
 st:ZT (n + 4) (n + 2) (n + 3) n (n + 1) ta tb ia ib .none 0 s4.heap
 sz:n=s3.heap.objs.size
 hn:cStatics < n
 keep:∀ b o,s3.heap.get? b=some o->s4.heap.get? b=some o
 hta:ta < n
 htb:tb < n
 va:∀ (i:Nat) (v:Value),ia.toList[i]?=some v->∃ a t,xs[i]?=some a /\ v=Value.int a t
 vb:∀ (i:Nat) (v:Value),ib.toList[i]?=some v->∃ a t,ys[i]?=some a /\ v=Value.int a t
 la:ia.size=xs.length
 lb:ib.size=ys.length
 hl:xs.length=ys.length
 hsz:xs.length ≤ sizeLine
 C:CodeHd s4.heap c Pt
 hP:∃ o,s3.heap.get? Pt=some o /\ Xm pos o
 ga:ta ≠ Pt
 gb:tb ≠ Pt
 gl:∀ h5:Heap,(∀ b o,b ≠ Pt->s4.heap.get? b=some o->h5.get? b=some o)->ZGl h5
 hg:s4.gens=s3.gens
 hd:s4.drawn=s3.drawn
 ho:s4.os=s3.os
structure ZEnd(Pt:Addr)(pos:Pos)(xs ys:List Int)(s3 s7:Shared)(acc:Array Value):Prop where
 keep:∀ b o,b ≠ Pt->s3.heap.get? b=some o->s7.heap.get? b=some o
 tab:∃ o,s7.heap.get? Pt=some o /\ Xm pos o
 gens:AllBare s3.gens->AllBare s7.gens
 drawn:s7.drawn=s3.drawn
 os:s7.os=s3.os
 sz:acc.size=xs.length
 at_:∀ (i:Nat) (v:Value),acc[i]?=some v->∃ a b t,xs[i]?=some a /\ ys[i]?=some b /\ v=Value.int (a + b) t
theorem Qc(n:Nat):(passing (fun _=>true) n 0).length=n /\ ∀ j,j < n->(passing (fun _=>true) n 0)[j]?=some j:=by
 unfold passing;rw[List.drop_zero,filter_eq_self.mpr (fun _ _=>rfl)];exact⟨length_range,fun j hj=>getElem?_range hj⟩
theorem H5{s7 s3:Shared}(e1:s7.drawn=s3.drawn)(e2:s7.os=s3.os):({s3 with heap:=s7.heap,toks:=s7.toks,gens:=s7.gens}:Shared)=s7:=by
 cases s7;cases s3;cases e1;cases e2;rfl
theorem U1{n k:Nat}{Pt:Addr}(h:Pt < n):n + k ≠ Pt:=fun q=>lt_irrefl _ (lt_of_le_of_lt (le_add_right _ k) (q ▸ h))
section
variable{c Pt:Addr}{pos:Pos}{xs ys:List Int}{n ta tb:Addr}{ia ib:Array Value}{s3 s4:Shared}(m:ZMid c Pt pos xs ys n ta tb ia ib s3 s4)
include m
theorem ZMid.lt:Pt < n:=let ⟨_,h,_⟩:=m.hP;m.sz ▸ lt_size h
theorem ZMid.ne:∀ b ∈ [n + 4,n + 2,n + 3,n,n + 1,ta,tb],b ≠ Pt:=
 forall_mem_cons.mpr ⟨U1 m.lt,forall_mem_cons.mpr ⟨U1 m.lt,forall_mem_cons.mpr ⟨U1 m.lt,forall_mem_cons.mpr ⟨U1 (k:=0) m.lt,forall_mem_cons.mpr ⟨U1 m.lt,forall_mem_cons.mpr ⟨m.ga,forall_mem_cons.mpr ⟨m.gb,fun _ h=>nomatch h⟩⟩⟩⟩⟩⟩⟩
theorem ZMid.at5{h5:Heap}(k5:∀ b o,b ≠ Pt->s4.heap.get? b=some o->h5.get? b=some o):ZT (n + 4) (n + 2) (n + 3) n (n + 1) ta tb ia ib .none 0 h5:=m.st.keep fun b hb o e=>k5 b o (m.ne b hb) e
end
theorem ZT.lt{z TI TO i1 i2 t1 t2:Addr}{xs ys:Array Value}{f0:Value}{k:Nat}{h:Heap}(st:ZT z TI TO i1 i2 t1 t2 xs ys f0 k h):∀ b ∈ [z,TI,TO,i1,i2,t1,t2],b < h.objs.size:=by
 obtain⟨u1,u2,⟨_,_,u3⟩,⟨_,u4,_⟩,⟨_,u5,_⟩,⟨_,u6,_⟩,⟨_,u7,_⟩⟩:=st;exact forall_mem_cons.mpr ⟨lt_size u1,forall_mem_cons.mpr ⟨lt_size u2,forall_mem_cons.mpr ⟨lt_size u3,forall_mem_cons.mpr ⟨lt_size u4,forall_mem_cons.mpr ⟨lt_size u5,forall_mem_cons.mpr ⟨lt_size u6,forall_mem_cons.mpr ⟨lt_size u7,fun _ h=>nomatch h⟩⟩⟩⟩⟩⟩⟩
theorem J6(n:Nat):∀ b ∈ [n + 4,n + 3,n,n + 1],n ≤ b:=
 forall_mem_cons.mpr ⟨le_add_right _ _,forall_mem_cons.mpr ⟨le_add_right _ _,forall_mem_cons.mpr ⟨le_refl _,forall_mem_cons.mpr ⟨le_add_right _ _,fun _ h=>nomatch h⟩⟩⟩⟩
theorem ZMid.fin{c Pt:Addr}{pos:Pos}{xs ys:List Int}{n ta tb:Addr}{ia ib:Array Value}{s3 s4 s5 s6 s7:Shared}{a:Addr}{F:Nat->Value->Prop}(m:ZMid c Pt pos xs ys n ta tb ia ib s3 s4){acc:Array Value}
  (k5:∀ b o,b ≠ Pt->s4.heap.get? b=some o->s5.heap.get? b=some o) (hg5:∃ o,s5.heap.get? Pt=some o /\ Xm pos o) (k6:∀ b o,s5.heap.get? b=some o->s6.heap.get? b=some o)
  (hk:∀ b o,b ∉ a::[n + 4,n + 3,n,n + 1]->s6.heap.get? b=some o->s7.heap.get? b=some o) (ha:s5.heap.objs.size ≤ a) (hg:AllBare s3.gens->AllBare s7.gens) (hd:s7.drawn=s3.drawn) (ho:s7.os=s3.os)
  (hF:∀ (i:Nat) (y:Value),F i y->∃ a b t,xs[i]?=some a /\ ys[i]?=some b /\ y=Value.int (a + b) t)
  (hacc:ItemsOf (fun j y=>∃ i,(passing (fun _=>true) ia.size 0)[j]?=some i /\ F i y) acc (passing (fun _=>true) ia.size 0).length):ZEnd Pt pos xs ys s3 s7 acc:=by
 obtain⟨pl,pg⟩:=Qc ia.size;have ge5:n ≤ s5.heap.objs.size:=le_trans (le_add_right _ 4) (le_of_lt ((m.at5 k5).lt _ mem_cons_self))
 have k57:∀ b o,b < n->s5.heap.get? b=some o->s7.heap.get? b=some o:=fun b o hlt e=>hk b o (fun hw=>by
  rcases mem_cons.mp hw with q | hw
  ·exact lt_irrefl _ (lt_of_lt_of_le (q ▸ hlt) (le_trans ge5 ha))
  ·exact lt_irrefl _ (lt_of_lt_of_le hlt (J6 n _ hw))) (k6 b o e)
 refine⟨fun b o hb e=>k57 b o (m.sz ▸ lt_size e) (k5 b o hb (m.keep b o e)),?_,hg,hd,ho,by rw[hacc.1,pl,m.la],fun i v e=>?_⟩
 ·obtain⟨o,h1,h2⟩:=hg5;exact⟨o,k57 _ _ m.lt h1,h2⟩
 ·obtain⟨i',h3,h4⟩:=hacc.2 i v e;rw[pg i (by have:=(Array.getElem?_eq_some_iff.mp e).1;rw[hacc.1,pl] at this;exact this)] at h3;exact hF i v (Option.some.inj h3 ▸ h4)
inductive F5(c Pt:Addr)(pos:Pos)(Q:Value->Shared->Prop)(it:Value)(s4:Shared):Prop
 | mk (n ta tb:Addr) (ia ib:Array Value) (xs ys:List Int) (s3:Shared) (e:it=.ref (n + 4)) (m:ZMid c Pt pos xs ys n ta tb ia ib s3 s4)
   (hQ:∀ s7 acc,ZEnd Pt pos xs ys s3 s7 acc->Q (.ref s7.heap.objs.size) {s7 with heap:=s7.heap.push {cls:=.type "tuple",data:=.seq acc}})
theorem ZMid.code{c Pt:Addr}{pos:Pos}{xs ys:List Int}{n ta tb:Addr}{ia ib:Array Value}{s3 s4:Shared}{M:Model}{A:Around}{E:Value->Shared->Prop}{env:Env}{qn:Str}{scope:Scope}{Q:Value->Shared->Prop}(m:ZMid c Pt pos xs ys n ta tb ia ib s3 s4)(hcode:env.code=.ref c)
  (hQ:∀ code h' tk,(∀ b o,b ≠ Pt->s4.heap.get? b=some o->h'.get? b=some o)->(∃ o,h'.get? Pt=some o /\ Xm pos o)->Q code {s4 with heap:=h',toks:=tk}):wpAny M A (genexprCode env pos qn scope) Q E s4:=
 let ⟨_,ho,hgt⟩:=m.hP
 Kj hcode m.C (m.keep _ _ ho) hgt hQ
theorem Ik{n a b N:Nat}(hN:N=a + 1)(hag:n < a)(hb:b ∈ a::n::List.range n):b < N:=by
 rw[hN];rcases mem_cons.mp hb with rfl | hb
 ·exact lt_succ_self _
 ·rcases mem_cons.mp hb with rfl | hb
  ·exact lt_succ_of_lt hag
  ·exact lt_succ_of_lt (lt_trans (mem_range.mp hb) hag)
theorem Mc{a b x y:Value}(e:#[a,b]=#[x,y]):a=x /\ b=y:=by simpa using congrArg Array.toList e
theorem Il{prog:Program}{w:World}{A:Around}{E:Value->Shared->Prop}{s:Shared}{env:Env}{Q:Value->Shared->Prop}{p2 p3 pos pt pa pb q1 q2 q3:Pos}{kt:Nat}{scope:Scope}{e1 e2:PySem.Expr}{c Pt:Addr}
  (hh:A.handled=none) (hroom:A.depth < recursionLimit) (hcode:env.code=.ref c) (hg0:env.globals=mainGlobals)
  (hco:scope.isCoroutine=false) (hclos:closureFor scope env=pure []) (hcell:∀ y ∈ scope.names,y.2 ≠ .cell) (h0:scope.names.lookup (".0" :Str)=some NameKind.local)
  (hxa:scope.names.lookup ("i" :Str)=some NameKind.local) (hxb:scope.names.lookup ("j" :Str)=some NameKind.local) (hkind:scope.kind=.function)
  (hf:∀ x,genFold (.Call (.Name "zip" p2) [e1,e2] [] p3) env x=pure x)
  (h:wpAny (model prog w) A (eval (.Call (.Name "zip" p2) [e1,e2] [] p3) env) (F5 c Pt pos Q) E s):
  wpAny (model prog w) A (eval (.GeneratorExp (.BinOp (.Name "i" q1) .Add (.Name "j" q2) q3) [⟨.Tuple [.Name "i" pa,.Name "j" pb] kt pt,.Call (.Name "zip" p2) [e1,e2] [] p3,[],0⟩] scope pos) env) (fun v s6=>wpAny (model prog w) A (call (.type "tuple") [v]) Q E s6) E s:=by
 refine wpAny_GeneratorExp_walksQT hh hco hclos hcell h0 hxa hxb (by decide) hkind hroom (wpAny_mono h (fun it s4 hz=>?_) fun _ _ e=>e) hf;cases hz with
 | mk n ta tb ia ib xs ys s3 e m hQ=>
 subst e;refine wpAny_pyIter_zip m.st.1 ⟨(m.gl _ fun _ _ _ e=>e).lim,m.code hcode fun code h5 tk k5 hg5=>(m.gl h5 k5).bi hg0 ⟨_,_,_,ia.size,_,_,_,fun _=>true,fun i y=>∃ a b t,xs[i]?=some a /\ ys[i]?=some b /\ y=Value.int (a + b) t,rfl,fun A' hA'=>P0 hA' (m.sz ▸ zipApart_new (m.sz ▸ m.hta) (m.sz ▸ m.htb)) (by rw[m.la,m.lb,m.hl]),fun i vals hv=>let ⟨x,y,_,_,e⟩:=hv;⟨x,y,e⟩,m.at5 k5,(m.at5 k5).lt,(m.gl h5 k5).lim,fun hw=>lt_irrefl _ (lt_of_lt_of_le m.hn (J6 n _ hw)),fun href _=>⟨fun A' E' i va vb t m2 hA' _ _ _ _ _=>wpAny_pure ⟨rfl,_,_,rfl,fun _ _ e=>e⟩,fun A' E' i va vb t m2 hA' hv _ hn hma hmb _=>?_⟩,fun a h6 tk6 gs hgb hag hsz6 k6 W hat=>?_⟩⟩
 ·obtain⟨x,y,hx,hy,e⟩:=hv;obtain⟨rfl,rfl⟩:=Mc e;obtain⟨a,t1,ha,rfl⟩:=m.va i _ (by rw[getElem?_toList];exact hx);obtain⟨b,t2,hb',rfl⟩:=m.vb i _ (by rw[getElem?_toList];exact hy);exact wpAny_BinOp (wpAny_Name (wpAny_loadName_local hkind hxa hn hma (wpAny_Name (wpAny_loadName_local hkind hxb hn hmb (PyProof.Rows.add_int ⟨⟨a,b,_,ha,hb',rfl⟩,_,_,rfl,fun _ _ e=>e⟩)) (by decide))) (by decide))
 ·exact call_tuple_gen (hsz:=by rw[(Qc ia.size).1,m.la];exact m.hsz) W.in4_3 (fun i s' st=>st.1.typeIs) hat (fun b hb=>Ik hsz6 hag hb) mem_cons_self fun s7 acc mv hacc=>hQ s7 acc (m.fin (s5:={s4 with heap:=h5,toks:=tk}) (s6:={s4 with heap:=h6}) k5 hg5 k6 (fun b o hb e=>mv.heap b o hb e) (le_refl _) (fun hg=>(AllBare.push (m.hg.symm ▸ hg) hgb).moved mv.gens) (mv.drawn.trans m.hd) (mv.os.trans m.ho) (fun _ _ e=>e) hacc)
theorem Rel.zmid{X:Cx}{B:St}{Z:ZM}{s3:Shared}{c Pt:Addr}{pos:Pos}{mg:Str->Option Value}{xs ys:List Int}{ta tb:Addr}{ia ib:Array Value}{oa ob:Obj}{h4:Heap}(r:Rel X B Z s3)(hlim:X.base.NoLimit)(hC:CodeHd X.base c Pt)(hg:X.base.Ns mainGlobals mg)
  (hb:∃ bm ob,mg "__builtins__" =some (.ref bm) /\ bm ≠ builtinsNs /\ bm ≠ mainGlobals /\ X.base.get? bm=some ob /\ ob.cls=.type "module" /\ ob.dict=some builtinsNs /\ ob.data=.plain)
  (hm:(Pt,Cell.raw (Xm pos)) ∈ B.mem) (za:Z ta=some oa) (zb:Z tb=some ob) (ra:VsRel X.prog X.w Z (xs.map V.int) ia.toList) (rb:VsRel X.prog X.w Z (ys.map V.int) ib.toList) (hl:xs.length=ys.length) (hsz:xs.length ≤ sizeLine)
  (st:ZT (s3.heap.objs.size + 4) (s3.heap.objs.size + 2) (s3.heap.objs.size + 3) s3.heap.objs.size (s3.heap.objs.size + 1) ta tb ia ib .none 0 h4) (k4:∀ b o,s3.heap.get? b=some o->h4.get? b=some o):ZMid c Pt pos xs ys s3.heap.objs.size ta tb ia ib s3 {s3 with heap:=h4}:=by
 have hPf:=r.nonempty hm;have hPz:∀ {b o},Z b=some o->b ≠ Pt:=fun e q=>by rw[q,r.zfoot _ hPf] at e;exact nsE e
 have kz:∀ {h5:Heap} {a:Addr} {o:Obj},(∀ b o,b ≠ Pt->h4.get? b=some o->h5.get? b=some o)->X.base.get? a=some o->¬ Tb X a->h5.get? a=some o:=fun k5 e ht=>k5 _ _ (hPz (r.st _ _ e ht)) (k4 _ _ (r.zin _ _ (r.st _ _ e ht)));have kb:∀ {h5:Heap} {a:Addr} {o:Obj},(∀ b o,b ≠ Pt->h4.get? b=some o->h5.get? b=some o)->X.base.get? a=some o->o.cls ≠ .none->h5.get? a=some o:=fun k5 e hc=>kz k5 e fun ht=>by obtain⟨o',_,h1,h2,_⟩:=ht;rw[e] at h1;cases h1;exact hc h2
 have ns5:∀ {h5:Heap} {a:Addr} {m:Str->Option Value},(∀ b o,b ≠ Pt->h4.get? b=some o->h5.get? b=some o)->X.base.Ns a m->h5.Ns a m:=fun k5 ⟨o,es,ep,h1,h2,h3,h4'⟩=>⟨o,es,ep,kz k5 h1 fun ht=>by obtain⟨o',vs,h1',h2',h3'⟩:=ht;rw[h1] at h1';cases h1';rw[h2] at h3';exact(nomatch h3'),h2,h3,h4'⟩
 refine⟨st,rfl,lt_trans (show cStatics < 3 by decide) r.sz3,k4,lt_size (r.zin _ _ za),lt_size (r.zin _ _ zb),fun i v e=>ra.intAt e,fun i v e=>rb.intAt e,by rw[<- length_toList,ra.length,length_map],by rw[<- length_toList,rb.length,length_map],hl,hsz,?_,r.mem _ hm,hPz za,hPz zb,fun h5 k5=>?_,rfl,rfl,rfl⟩
 ·obtain⟨o,vs,file,tf,flags,tg,inF,text,tt,g1,g2,r'⟩:=hC;exact⟨o,vs,file,tf,flags,tg,inF,text,tt,k4 _ _ (r.base g1 (by rw[g2];intro h;exact(nomatch h))),g2,r'⟩
 ·obtain⟨bm,ob,b1,b2,b3,b4,b5,b6,b7⟩:=hb;exact⟨let ⟨mc,hn,e⟩:=hlim;⟨mc,ns5 k5 hn,e⟩,mg,bm,ob,ns5 k5 hg,b1,b2,kb k5 b4 (by rw[b5];intro h;exact(nomatch h)),b5,b6,b7⟩
theorem ZEnd.ext{X:Cx}{B:St}{Z:ZM}{Pt:Addr}{pos:Pos}{xs ys:List Int}{s3 s7:Shared}{acc:Array Value}(z:ZEnd Pt pos xs ys s3 s7 acc)(r:Rel X B Z s3)(hm:(Pt,Cell.raw (Xm pos)) ∈ B.mem):Ext X B Z s3 B Z s7:=
 H5 z.drawn z.os ▸ (r.setMemK (UpM.same hm) (tk:=s7.toks) (fun b o hb e=>z.keep b o hb e) z.tab).gens (z.gens r.gens)
theorem ZEnd.rel{prog:Program}{w:World}{Z:ZM}{Pt:Addr}{pos:Pos}{xs ys:List Int}{s3 s7:Shared}{acc:Array Value}(z:ZEnd Pt pos xs ys s3 s7 acc)(hl:xs.length=ys.length):VsRel prog w Z ((zipWith (· + ·) xs ys).map V.int) acc.toList:=by
 refine VsRel.of_get (by rw[length_toList,z.sz,length_map,length_zipWith,<- hl,min_self]) fun i d v h1 h2=>?_;rw[getElem?_toList] at h2;obtain⟨a',b',t,h4',h5',rfl⟩:=z.at_ i v h2;rw[getElem?_map,List.getElem?_zipWith,h4',h5'] at h1;cases h1;exact Zu
inductive F6(Pt:Addr)(pos:Pos)(P:V->St->Prop)(ds:List V)(B:St):Prop
 | mk (xs ys:List Int) (e:ds=[.tup (xs.map V.int),.tup (ys.map V.int)]) (hl:xs.length=ys.length) (hsz:xs.length ≤ sizeLine) (hm:(Pt,Cell.raw (Xm pos)) ∈ B.mem) (hP:P (.tup ((zipWith (· + ·) xs ys).map V.int)) B)
theorem J.useLit{X:Cx}{B:St}{Z:ZM}{s:Shared}{e:PySem.Expr}{c:Value}{H:St->Prop}{Q:Value->Shared->Prop}(h:EV X e B fun f B1=>f=.lit c /\ H B1)(r:Rel X B Z s)(k:∀ Z' s' B',Ext X B Z s B' Z' s'->H B'->Q c s'):wpAny (model X.prog X.w) X.A (eval e X.env) Q Zm s:=
 J.use h r fun Z1 s1 B1 f v x1 r1 q=>by
  obtain⟨rfl,h1⟩:=q;cases (show v=c from r1);exact k _ _ _ x1 h1
theorem No{X:Cx}{B:St}{Z:ZM}{s3:Shared}{c Pt:Addr}{pos:Pos}{mg:Str->Option Value}{vs:List Value}{ds:List V}{A:Around}{E:Value->Shared->Prop}{Q:Value->Shared->Prop}{P:V->St->Prop}(r:Rel X B Z s3)(hlim:X.base.NoLimit)(hC:CodeHd X.base c Pt)(hg:X.base.Ns mainGlobals mg)
  (hb:∃ bm ob,mg "__builtins__" =some (.ref bm) /\ bm ≠ builtinsNs /\ bm ≠ mainGlobals /\ X.base.get? bm=some ob /\ ob.cls=.type "module" /\ ob.dict=some builtinsNs /\ ob.data=.plain)
  (hv:VsRel X.prog X.w Z ds vs) (z:F6 Pt pos P ds B)
  (hQ:∀ s7 (xs ys:List Int) acc,ZEnd Pt pos xs ys s3 s7 acc->Ext X B Z s3 B Z s7->(∀ Z',VsRel X.prog X.w Z' ((zipWith (· + ·) xs ys).map V.int) acc.toList)->P (.tup ((zipWith (· + ·) xs ys).map V.int)) B->Q (.ref s7.heap.objs.size) {s7 with heap:=s7.heap.push {cls:=.type "tuple",data:=.seq acc}}):wpAny (model X.prog X.w) A (call (.type "zip") vs) (F5 c Pt pos Q) E s3:=by
 obtain⟨xs,ys,rfl,hl,hsz,hm,hP⟩:=z;obtain⟨va,_,rfl,⟨ta,ia,na,rfl,za,ra⟩,vb,_,rfl,⟨tb,ib,nb,rfl,zb,rb⟩,e⟩:=hv;cases e;exact Nk ⟨_,r.zin _ _ za,rfl,_,rfl⟩ ⟨_,r.zin _ _ zb,rfl,_,rfl⟩ fun h4 st hs4 k4=>⟨_,ta,tb,ia,ib,xs,ys,s3,rfl,r.zmid hlim hC hg hb hm za zb ra rb hl hsz st k4,fun s7 acc z=>hQ s7 xs ys acc z (z.ext r hm) (fun _=>z.rel hl) hP⟩
theorem Nn{X:Cx}{B:St}{Z:ZM}{s3 s7:Shared}{l:List V}{acc:Array Value}{P:V->St->Prop}(y:Ext X B Z s3 B Z s7)(v:∀ Z',VsRel X.prog X.w Z' l acc.toList)(hP:P (.tup l) B):Post X (RV X) B Z s3 P (.ref s7.heap.objs.size) {s7 with heap:=s7.heap.push {cls:=.type "tuple",data:=.seq acc}}:=by
 obtain⟨y4,le⟩:=y.pushZ {cls:=.type "tuple",data:=.seq acc};exact here y4 (Ue Zput.self (v _)) hP
theorem EV.tupZip{p1 p2 p3 pos pt pa pb q1 q2 q3 pos2:Pos}{kt:Nat}{scope:Scope}{e1 e2:PySem.Expr}{c Pt:Addr}{mg:Str->Option Value}{k:Nat}(hA:Rm X.A (k + 1))(hlim:X.base.NoLimit)
  (hcode:X.env.code=.ref c) (hC:CodeHd X.base c Pt) (hg:X.base.Ns mainGlobals mg) (hg0:X.env.globals=mainGlobals)
  (hb:∃ bm ob,mg "__builtins__" =some (.ref bm) /\ bm ≠ builtinsNs /\ bm ≠ mainGlobals /\ X.base.get? bm=some ob /\ ob.cls=.type "module" /\ ob.dict=some builtinsNs /\ ob.data=.plain)
  (hco:scope.isCoroutine=false) (hclos:closureFor scope X.env=pure []) (hcell:∀ y ∈ scope.names,y.2 ≠ .cell) (h0:scope.names.lookup (".0" :Str)=some NameKind.local)
  (hxa:scope.names.lookup ("i" :Str)=some NameKind.local) (hxb:scope.names.lookup ("j" :Str)=some NameKind.local) (hkind:scope.kind=.function)
  (h:EV X (.Name "tuple" p1) B fun f B1=>f=.lit (.type "tuple") /\ EV X (.Name "zip" p2) B1 fun g B2=>g=.lit (.type "zip") /\ EVs X p3 [e1,e2] B2 fun ds B3=>F6 Pt pos P ds B3)
  (hp:∀ env,(starEach [e1,e2] env).any (·.1)=false:=by intro _;rfl)
  (hz:∀ env,eval (.Call (.Name "zip" p2) [e1,e2] [] p3) env=(do callWith p3 (<- eval (.Name "zip" p2) env) [] (backTo p3 (starEach [e1,e2] env)) (backToKw p3 (keywordEach [] env))):=by intro _;rfl)
  (hf:∀ env x,genFold (.Call (.Name "zip" p2) [e1,e2] [] p3) env x=pure x:=by intro _ _;rfl):
  EV X (.Call (.Name "tuple" p1) [.GeneratorExp (.BinOp (.Name "i" q1) .Add (.Name "j" q2) q3) [⟨.Tuple [.Name "i" pa,.Name "j" pb] kt pt,.Call (.Name "zip" p2) [e1,e2] [] p3,[],0⟩] scope pos] [] pos2) B P:=fun Z s r=>by
 rw[show ∀ gen env,eval (.Call (.Name "tuple" p1) [.GeneratorExp gen [⟨.Tuple [.Name "i" pa,.Name "j" pb] kt pt,.Call (.Name "zip" p2) [e1,e2] [] p3,[],0⟩] scope pos] [] pos2) env=(do callWith pos2 (<- eval (.Name "tuple" p1) env) [] (backTo pos2 (starEach [.GeneratorExp gen [⟨.Tuple [.Name "i" pa,.Name "j" pb] kt pt,.Call (.Name "zip" p2) [e1,e2] [] p3,[],0⟩] scope pos] env)) (backToKw pos2 (keywordEach [] env))) from fun _ _=>rfl];refine wpAny_bind (J.useLit h r fun Z1 s1 B1 x1 h1=>Ye (Yg rfl) (wpAny_items_cons (wpAny_mono (Il (Pt:=Pt) hA.handled hA.room hcode hg0 hco hclos hcell h0 hxa hxb hkind (hf _) ?_) (fun v s6 hv=>wpAny_items_nil (M:=model X.prog X.w) ⟨fun Q hQ=>wpAny_pure (hQ _),hv⟩) fun _ _ e=>e) rfl));rw[hz];exact wpAny_bind (J.useLit h1 x1.rel fun Z2 s2 B2 x2 h2=>Ye (Yg (hp _)) (J.use h2 x2.rel fun Z3 s3 B3 ds vs x3 r3 h3=>⟨fun Q hQ=>wpAny_pure (hQ _),No x3.rel hlim hC hg hb r3 h3 fun s7 xs ys acc z y v hP=>Post.lift x1 (Post.lift x2 (Post.lift x3 (Nn y v hP)))⟩))
theorem LCE.sdictX{m:List (Addr × Cell)}{c:Cell}{B1:St}(h:LCE (fun d B'=>∃ ks vs,d=.sdict ks vs /\ ∀ D,P (.ref D) {B' with mem:=B'.mem++[(D,.sdict ks vs)]}) m c B1):LCX P m c B1:=by
 obtain⟨h1,ks,vs,e,h2⟩:=h;cases c with
 | sdict k l=>injection e with e1 e2;subst e1 e2;exact h2
 | list l=>exact V.noConfusion e
 | idict k l=>exact V.noConfusion e
 | ns l=>exact Bool.noConfusion h1
 | raw p=>exact Bool.noConfusion h1
theorem CVG.dcsM{α:Type}{kx vx target iter:PySem.Expr}{ifs:List PySem.Expr}{scope:Scope}{pos:Pos}
  (h:EV X iter B (DCF X α Str .str kx vx target ifs scope (fun d B'=>∃ ks vs,d=.sdict ks vs /\ ∀ D,P (.ref D) {B' with mem:=B'.mem++[(D,.sdict ks vs)]}) .sdict))
  (hok:Zc scope.names=true) (hfk:Y3 scope.names (B.cel.map (·.1)) (B.cap.map (·.1))=true) (hk:scope.kind=.function) (hs:∀ x,foldedSetIterable iter X.env x=pure x):
  CVG X (.DictComp kx vx [⟨target,iter,ifs,0⟩] scope pos) scope (firstIterPos [⟨target,iter,ifs,0⟩] pos) newDict iter B P:=fun Z s use R r fin=>by
 refine Ti (gs:=[]) (oa:={cls:=.type "dict",data:=.dict #[]}) (c0:=.sdict [] []) (.inr ⟨_,_,_,_,_,rfl⟩) rfl (fun _ h=>nomatch h) hok hk rfl (fun Z h a e=>?_) (fun s Q h=>wpAny_newObj_type h (zero_le _)) r (J.mono h fun _ _ h=>(h.toG (cmk:=.sdict) (fun _ _ _ _ _ _ _ hl h=>IN.puts rfl hl h) fun _ _=>⟨rfl,rfl⟩).mono fun _ _ h=>LCE.sdictX h) hs hfk fin;exact⟨[],⟨_,#[],0,e,⟨rfl,rfl,rfl⟩,rfl,fun _ he=>by simp at he,.nil,nodup_nil⟩,rfl,rfl⟩
theorem CALL.min2{a b:Int}(hA:X.A.handled=none)(h:P (.int (if b < a then b else a)) B):CALL X (.builtin "min") [.int a,.int b] B P:=fun Z s vs r hvs=>by
 obtain⟨v,u,rfl,⟨t,rfl⟩,⟨t',rfl⟩⟩:=vs2 hvs;refine min_two_ints hA fun h' tk hk=>?_
 by_cases c:b < a
 ·rw[if_pos c] at h ⊢;exact Z7 (Ext.keepAll r hk) Zu h
 ·rw[if_neg c] at h ⊢;exact Z7 (Ext.keepAll r hk) Zu h
theorem AS.list{elts kd pos ds}{Q:St->Prop}(hA:X.A.handled=none)(h:ASs X elts ds B Q)(hlen:elts.length=ds.length)
  (he:∀ env,(assignEach elts env).map (·.2)=elts.map fun t=>assign t env) (hst:∀ env,(assignEach elts env).findIdx? (·.1)=none):AS X (.Tuple elts kd pos) (.list ds) B Q:=fun Z s v r hv=>by
 obtain⟨a,its,n,rfl,ha,hr⟩:=hv
 haveI ht:s.heap.IsList a its:=⟨_,r.zin _ _ ha,rfl,n,rfl⟩
 haveI hsz:(assignEach elts X.env).length=its.size:=by
  haveI:=congrArg List.length (he X.env)
  simp only[length_map] at this;rw[this,hlen,<- hr.length];simp
 rw[arm_assign_Tuple];refine wpAny_bind (wpAny_standAt ?_);unfold unpack;rw[hsz,hst];refine wpAny_bind (wpAny_holding (kun_itemsOf hA ht fun h' hx=>?_));rw[he];exact ASs.run h (Ext.extBut r hx) hr
theorem EV.dictCmp{k1 k2 k3 v1 v2 v3:PySem.Expr}{pos}{i j l:Int}(a1:∀ B,EV X k1 B fun d B1=>d=.int (-1) /\ B1=B)(b1:∀ B,EV X v1 B fun d B1=>d=.int i /\ B1=B)(a2:∀ B,EV X k2 B fun d B1=>d=.int 0 /\ B1=B)(b2:∀ B,EV X v2 B fun d B1=>d=.int j /\ B1=B)
  (a3:∀ B,EV X k3 B fun d B1=>d=.int 1 /\ B1=B) (b3:∀ B,EV X v3 B fun d B1=>d=.int l /\ B1=B) (h:P (.idict [-1,0,1] [.int i,.int j,.int l]) B):EV X (.Dict [some k1,some k2,some k3] [v1,v2,v3] pos) B P:=EV.frz fun Z s r=>by
 have x0:=(Ext.refl r).pushM {cls:=.type "dict",data:=.dict #[]} (c:=.idict [] []) rfl ⟨[],Heap.DictOf.new _,rfl,rfl⟩;refine wpAny_Dict_pairs (knd:=PySem.intKind X.prog X.w) (pairs:=[(eval k1 X.env,do let x <- eval v1 X.env;standAt pos;pure x),(eval k2 X.env,do let x <- eval v2 X.env;standAt pos;pure x),(eval k3 X.env,do let x <- eval v3 X.env;standAt pos;pure x)]) rfl (fun h=>nomatch h) (le_of_ble_eq_true rfl) ?_
 have one:∀ {k v:PySem.Expr} {a b:Int} {rest:List (Sem Value × Sem Value)} {Z1:ZM} {s1:Shared} {B1:St} {Q:List (Value × Value)->Shared->Prop},(∀ B,EV X k B fun d B1=>d=.int a /\ B1=B)->(∀ B,EV X v B fun d B1=>d=.int b /\ B1=B)->Rel X B1 Z1 s1->
   (∀ t u Z2 s2,Ext X B1 Z1 s1 B1 Z2 s2->wpAny (model X.prog X.w) X.A (evalPairs rest) (fun vs s'=>Q ((.int a t,.int b u)::vs) s') Zm s2)->
   wpAny (model X.prog X.w) X.A (evalPairs ((eval k X.env,do let x <- eval v X.env;standAt pos;pure x)::rest)) Q Zm s1:=fun ha hb r1 hq=>by
  refine evalPairs_cons (J.use (ha _) r1 fun Z2 s2 B2 d v x2 r2 ⟨e1,e2⟩=>?_);subst e1 e2;refine wpAny_bind (J.use (hb _) x2.rel fun Z3 s3 B3 d2 u x3 r3 ⟨e1,e2⟩=>wpAny_bind (wpAny_standAt (wpAny_pure ?_)));subst e1 e2;obtain⟨t,rfl⟩:=r2;obtain⟨t',rfl⟩:=r3;exact hq t t' Z3 s3 (x2.trans x3)
 refine one a1 b1 x0.rel fun t1 u1 Z1 s1 x1=>one a2 b2 x1.rel fun t2 u2 Z2 s2 x2=>one a3 b3 x2.rel fun t3 u3 Z3 s3 x3=>evalPairs_nil ?_;have r3:=x3.rel;obtain⟨us,hd,hl,hr⟩:=r3.mem _ (mem_append_right _ (mem_singleton.mpr rfl));have hus:us=[]:=hr;subst hus;refine⟨[(-1,.int i u1),(0,.int j u2),(1,.int l u3)],⟨Ke,rfl,Ke,rfl,Ke,rfl,trivial⟩,hd,fun h' hd' hs'=>?_⟩;have y:=(r3.setMem (mem':=B.mem++[(s.heap.objs.size,.idict [-1,0,1] [.int i,.int j,.int l])]) (UpM.last B.mem) hs' (c:=.idict [-1,0,1] [.int i,.int j,.int l]) ⟨[.int i u1,.int j u2,.int l u3],hd',rfl,_,_,rfl,Zu,_,_,rfl,Zu,_,_,rfl,Zu,rfl⟩).toks (tk:=s3.toks + 3);exact Z7 ((((x0.trans x1).trans x2).trans x3).trans y) Yh ⟨_,_,B,_,⟨rfl,⟨_,Cut.last _,.rest⟩,FzE.refl _,FzE.refl _,rfl⟩,.at,h⟩
inductive LCK(X:Cx)(α:Type)(elt target:PySem.Expr)(scope:Scope)(mk:Addr × Addr->α->List (Addr × Cell))(P:V->St->Prop)(d:V)(B1:St):Prop
 | mk (xs:List α) (enc:α->V) (locc celc:List (Str × Option V)) (capc:List (Str × V)) (hit:ITERC X target B1 d (xs.map enc)) (hL:ScL B1.cel B1.cap scope.names locc celc capc) (hsz:xs.length ≤ sizeLine)
  (turn:∀ C x m,x ∈ xs->AS (X.comp scope C) target (enc x) ⟨locc,celc,capc,m⟩ fun B2=>EV (X.comp scope C) elt B2 fun d B4=>∃ r,d=.ref r.1 /\ Back ⟨locc,celc,capc,[]⟩ (m++mk r x) B4)
  (fin:∀ D (rs:List (Addr × Addr)),rs.length=xs.length->P (.ref D) {B1 with mem:=B1.mem++(D,.list (rs.map fun r=>V.ref r.1))::(rs.zip xs).flatMap fun p=>mk p.1 p.2})
theorem O5{a:Addr}{c c':Cell}{t:List (Addr × Cell)}:∀ m:List (Addr × Cell),UpM a c' (m++(a,c)::t) (m++(a,c')::t)
 | []=>.head
 | _::m=>.tail (O5 m)
theorem LCK.toB{α:Type}{elt target iter:PySem.Expr}{scope:Scope}{pos:Pos}{mk:Addr × Addr->α->List (Addr × Cell)}{d:V}{B1:St}(h:LCK X α elt target scope mk P d B1):LCB X target scope (.ListComp elt [⟨target,iter,[],0⟩] scope pos) [] (.list []) P d B1:=by
 obtain⟨xs,enc,locc,celc,capc,hit,hL,hsz,turn,fin⟩:=h
 refine .mk _ locc celc capc hit hL (fun c m1 m2=>∃ rs:List (Addr × Addr),rs.length=xs.length /\ c=.list (rs.map fun r=>V.ref r.1) /\ m1=B1.mem /\ m2=(rs.zip xs).flatMap fun p=>mk p.1 p.2)
  (fun C D=>⟨fun i B2=>∃ rs:List (Addr × Addr),rs.length=i /\ Back ⟨locc,celc,capc,[]⟩ (B1.mem++(D,.list (rs.map fun r=>V.ref r.1))::(rs.zip (xs.take i)).flatMap fun p=>mk p.1 p.2) B2,⟨[],rfl,Wk.refl _,Wk.refl _,rfl,rfl⟩,?_,?_⟩) ?_
 ·rintro i di B2 hi ⟨rs,hr,hb⟩;rw[getElem?_map,Option.map_eq_some_iff] at hi;obtain⟨x,hx,rfl⟩:=hi;have hlen:=(List.getElem?_eq_some_iff.mp hx).1;have hb':Back {(⟨locc,celc,capc,[]⟩:St) with mem:=B1.mem++(D,.list (rs.map fun r=>V.ref r.1))::(rs.zip (xs.take i)).flatMap fun p=>mk p.1 p.2} ({(⟨locc,celc,capc,[]⟩:St) with mem:=B1.mem++(D,.list (rs.map fun r=>V.ref r.1))::(rs.zip (xs.take i)).flatMap fun p=>mk p.1 p.2}:St).mem B2:=hb;refine AS.forget hb' (AS.mono (turn C x _ (mem_of_getElem? hx)) fun B3 h3=>TS.nil ?_);refine(if_pos rfl).mpr ?_;refine IN.append rfl (J.post h3 fun d B4 h4=>?_);obtain⟨r,rfl,h1,h2,h3,h4⟩:=h4
  have ez:((rs++[r]).zip (xs.take (i + 1))).flatMap (fun p=>mk p.1 p.2)=(rs.zip (xs.take i)).flatMap (fun p=>mk p.1 p.2)++mk r x:=by
   rw[Za hx,List.zip_append (by rw[hr,length_take,Nat.min_eq_left (le_of_lt hlen)]),flatMap_append];exact congrArg _ (append_nil _)
  refine⟨rs.map fun r=>V.ref r.1,by rw[h4];exact mem_append_left _ (mem_append_right _ mem_cons_self),by rw[length_map,hr];exact le_trans (le_of_lt hlen) hsz,B1.mem++(D,.list ((rs.map fun r=>V.ref r.1)++[V.ref r.1]))::((rs.zip (xs.take i)).flatMap (fun p=>mk p.1 p.2)++mk r x),?_,rs++[r],by rw[length_append,hr];rfl,h1,h2,h3,by rw[ez,map_append];rfl⟩;rw[h4,append_assoc];exact O5 _
 ·rintro B2 ⟨rs,hr,hb⟩;rw[length_map] at hr hb;rw[take_length] at hb;exact⟨_,_,_,hb.2.2.2,rs,hr,rfl,rfl,rfl⟩
 ·rintro D c m1 m2 ⟨rs,hr,rfl,rfl,rfl⟩;exact fin D rs hr
theorem CVG.lck{α:Type}{elt target iter:PySem.Expr}{scope:Scope}{pos:Pos}(mk:Addr × Addr->α->List (Addr × Cell))(h:EV X iter B (LCK X α elt target scope mk P))
  (hok:Zc scope.names=true) (hfk:Y3 scope.names (B.cel.map (·.1)) (B.cap.map (·.1))=true) (hk:scope.kind=.function) (hs:∀ x,foldedSetIterable iter X.env x=pure x):
  CVG X (.ListComp elt [⟨target,iter,[],0⟩] scope pos) scope (firstIterPos [⟨target,iter,[],0⟩] pos) (newList []) iter B P:=fun Z s use R r fin=>
 Tj (gs:=[]) (Q:=P) (oa:={cls:=.type "list",data:=.seq #[]}) (c0:=.list []) (.inl ⟨_,_,_,_,rfl⟩) rfl (fun _ h=>nomatch h) hok hk rfl (fun Z h a e=>⟨#[],⟨0,e⟩,rfl⟩) (fun s Q h=>wpAny_newList (items:=[]) h (zero_le _)) r (J.mono h fun _ _ h=>h.toB) hs hfk fin
end
section
variable{prog:Program}{w:World}{A:Around}{E:Value->Shared->Prop}{s:Shared}
theorem Q2{I:Addr}{fp wr:List Addr}{G:Array GenState->Array GenState->Prop}{n:Nat}{P:Nat->Value->Prop}{St:Nat->Shared->Prop}(W:WalksS prog w A I fp wr G n P St)(acc:Array Value):
  WalksS prog w A I fp wr G (acc.size + n) (fun i v=>(acc[i]?=some v) \/ ∃ j,i=acc.size + j /\ P j v) (fun i s=>∃ j,i=acc.size + j /\ St j s) where
 sub:=W.sub
 grefl:=W.grefl
 gtrans:=W.gtrans
 frame:=fun i s h' tk ⟨j,e,st⟩ ht hk=>⟨j,e,W.frame j s h' tk st ht hk⟩
 item:=fun i s Q E hi ⟨j,e,st⟩ hQ=>W.item j s Q E (Nat.lt_of_add_lt_add_left (e ▸ hi)) st fun v s' hP st' hm=>hQ v s' (.inr ⟨j,e,hP⟩) ⟨j + 1,by rw[e];rfl,st'⟩ hm
 done:=fun s Q E ⟨j,e,st⟩ hQ=>W.done s Q E (Nat.add_left_cancel e ▸ st) hQ
 self:=fun i s Q E ⟨j,e,st⟩ hQ=>W.self j s Q E st hQ
theorem Po{T:String}{r d:Addr}{n:Nat}{P:Nat->Value->Prop}{OK:Heap->Prop}(K:KdlSrc prog w T r d n P OK)(S:Addr)(hSr:S ≠ r)(hSd:S ≠ d)(acc:Array Value)(c0:Nat)(hn:acc.size + n + 1 ≤ sizeLine):
  MeetsIn prog w (Builtin.«list.extend» ⟨[.ref S,.ref r],[]⟩) (fun A R s=>A.handled=none /\ OK s.heap /\ s.heap.get? S=some {cls:=.type "list",data:=.seq acc c0} ∧
   ∀ h' tk (acc':Array Value) c',(∀ b o,b ≠ S->s.heap.get? b=some o->h'.get? b=some o)->h'.get? S=some {cls:=.type "list",data:=.seq acc' c'}->ItemsOf (fun i v=>(acc[i]?=some v) \/ ∃ j,i=acc.size + j /\ P j v) acc' (acc.size + n)->R (.ok (.ret .none)) {s with heap:=h',toks:=tk}):=fun A R s ⟨hh,hok,hS,hR⟩=>by
 have hSI:S ≠ s.heap.objs.size:=ne_of_lt (lt_size hS)
 have hSf:S ∉ [s.heap.objs.size,d]:=fun hm=>by
  rcases mem_cons.mp hm with q | q
  ·exact hSI q
  ·exact hSd (mem_singleton.mp q)
 obtain⟨oI,St,hit,W,st⟩:=K.iter A.in1 s hh hok
 have key:∀ (h:Heap) (c1 tk:Nat),St 0 h->(∀ b o,b ≠ S->s.heap.get? b=some o->h.get? b=some o)->h.get? S=some {cls:=.type "list",data:=.seq acc c1}->
   codeAny (model prog w) A (.builtin "list.extend.loop" ⟨[.ref S,.ref s.heap.objs.size,.none],[]⟩) R {s with heap:=h,toks:=tk}:=fun h c1 tk hst hk hS1=>by
  refine codeAny_extend_loopS (Q2 W.toS acc) (le_of_succ_le hn) S hSf .none _ acc.size _ acc c1 rfl (le_add_right _ _) ⟨0,rfl,hst⟩ hS1 ⟨rfl,fun j v hj=>.inl hj⟩ fun s' acc' c' hm hS' hacc=>?_;rw[Moved.eq_with hm];refine hR s'.heap s'.toks acc' c' (fun b o hb e=>hm.heap b o (fun hmem=>?_) (hk b o hb e)) hS' hacc;rcases mem_cons.mp hmem with q | q
  ·exact hb q
  ·exact absurd (lt_size e) (by rw[mem_singleton.mp q];exact lt_irrefl _)
 show wpAny _ _ (Builtin.List.listExtendWith (.ref S) (.ref r) .none) _ _ s;unfold Builtin.List.listExtendWith;refine wpAny_bind (wpAny_typeOf (T:=T) (K.type s hok) ?_);have h1:Builtin.List.listSameRef (.ref S) (.ref r)=false:=by simp[Builtin.List.listSameRef,hSr]
 simp only[h1,K.notList,K.notTuple,Bool.or_false,false_eq_true,if_false];refine wpAny_bind (hit _ _ ?_);have hS1:=get?_push_of_some oI hS;refine wpAny_bind (wpAny_holding (K.hint _ _ _ _ (K.keep _ _ hok fun b _ o e=>get?_push_of_some _ e) ?_));refine wpAny_ite_split (fun _=>?_) (fun _=>wpAny_pure ⟨plainId_quiet PySem.F.plain_extend_loop _,key _ c0 _ st (fun b o _ e=>get?_push_of_some _ e) hS1⟩);refine wpAny_bind (wpAny_rule ?_);refine wpAny_bind ?_;have hsz:acc.size + 1 ≤ sizeLine:=le_trans (succ_le_succ (le_add_right _ _)) hn;refine wpAny_bind (wpAny_updateSeq hS1 rfl ?_ (le_of_succ_le hsz) (by show(acc.push _).size ≤ _;rw[Array.size_push];exact le_succ_of_le hsz));have hS2:=get?_update_self (Obj.mapSeq (·.push Value.none)) hS1 rfl;refine wpAny_updateSeq (hz:=by show(acc.push _).size ≤ _;rw[Array.size_push];exact hsz) hS2 rfl ?_ (by show((acc.push _).pop).size ≤ _;rw[Array.pop_push];exact le_succ_of_le (le_of_succ_le hsz));have hS3:=get?_update_self (Obj.mapSeq (·.pop)) hS2 rfl;obtain⟨c3,e3⟩:∃ c3,Obj.mapSeq (·.pop) (Obj.mapSeq (·.push Value.none) ({cls:=.type "list",data:=.seq acc c0}:Obj))={cls:=.type "list",data:=.seq acc c3}:=⟨_,by unfold Obj.mapSeq;simp only[Array.pop_push];rfl⟩
 rw[e3] at hS3;refine wpAny_pure ⟨plainId_quiet PySem.F.plain_extend_loop _,key _ _ _ ?_ (fun b o hb e=>?_) hS3⟩
 ·refine W.frame 0 _ _ st fun b hb o e=>?_;have hbS:b ≠ S:=fun h=>hSf (h ▸ hb);exact(get?_update_other _ _ (Ne.symm hbS)).trans ((get?_update_other _ _ (Ne.symm hbS)).trans e)
 ·exact(get?_update_other _ _ (Ne.symm hb)).trans ((get?_update_other _ _ (Ne.symm hb)).trans (get?_push_of_some _ e))
end
section
variable{X:Cx}{B B':St}{Z Z':ZM}{s s':Shared}{P:V->St->Prop}
theorem CALL.extendD{a:Addr}{l vs':List V}{ks:List Str}{mem'}(hA:X.A.handled=none)(hm:(a,Cell.list l) ∈ B.mem)(hu:UpM a (.list (l++ks.map V.str)) B.mem mem')(h:P .none {B with mem:=mem'})(hs:l.length + ks.length + 1 ≤ sizeLine):CALL X (.builtin "list.extend") [.ref a,.sdict ks vs'] B P:=fun Z s vs r hvs=>by
 obtain⟨v,u,rfl,h0,d,us,rfl,lo,z,hl,hr2⟩:=vs2 hvs;cases h0;obtain⟨its,⟨m,hp⟩,hr⟩:=r.mem _ hm;have hd:=r.pdict z;obtain⟨ep,hat⟩:=hd.dictAt
 have hne:a ≠ d:=fun e=>by
  obtain⟨o',es',ep',hz,_⟩:=z;rw[<- e,r.zfoot _ (r.nonempty hm)] at hz;exact nsE hz
 have hkl:(ks.zip us).length=ks.length:=by rw[length_zip,hl,min_self]
 refine call_meetsIn F.slot_list_extend ⟨_,hp,rfl⟩ F.entry_list_extend (F.args_list_extend_2 _ _) (Po (kdl_dict (knd:=strKind X.prog X.w) (kvs:=ks.zip us) (ep:=ep) (Yt lo)) a hne hne its m (by rw[hr.length',hkl];exact hs)) ⟨hA,hat,hp,fun h' tk acc' c' hk hS hacc=>?_⟩;refine Z7 (r.setMemK (tk:=tk) hu hk ⟨acc',⟨c',hS⟩,VsRel.of_get ?_ fun i e v h1 h2=>?_⟩) Xd h
 ·rw[length_toList,hacc.1,hkl,length_append,length_map,hr.length']
 ·rw[getElem?_toList] at h2;rcases hacc.2 i v h2 with q | ⟨j,rfl,k,x,q1,q2⟩
  ·have hi:=(Array.getElem?_eq_some_iff.mp q).1;rw[List.getElem?_append_left (by rw[<- hr.length'];exact hi)] at h1;obtain⟨v',e1,e2⟩:=hr.get h1;rw[getElem?_toList,q] at e1;cases e1;exact e2
  ·rw[getElem?_append_right (by rw[hr.length'];exact le_add_right _ _),hr.length',Nat.add_sub_cancel_left,getElem?_map,(getElem?_zip_eq_some.mp q1).1] at h1;cases h1;exact P5 q2
end
noncomputable def Yp:List Int->List Int->Bool
 | x::xs,y::ys=>if x == y then Yp xs ys else decide (x < y)
 | _,_=>false
theorem Hi{prog:Program}{w:World}{A:Around}{E:Value->Shared->Prop}{s:Shared}{a b:Int}{t u:Tok}{Q:Value->Shared->Prop}(h:Q (.bool (decide (a < b))) s):wpAny (model prog w) A (richCompare .Lt (.int a t) (.int b u)) Q E s:=PyProof.Rows.lt_int h
theorem Hj{prog:Program}{w:World}{A:Around}{E:Value->Shared->Prop}{s:Shared}{a b:Int}{t u:Tok}{Q:Value->Shared->Prop}(h:Q (.bool (decide (b < a))) s):wpAny (model prog w) A (richCompare .Gt (.int a t) (.int b u)) Q E s:=PyProof.Rows.gt_int h
set_option maxHeartbeats 2000000 in
theorem P2(l b:Addr)(items items2:Array Value)(n n2:Nat)(xs ys:List Int)(h1:items.size=xs.length)(h2:items2.size=xs.length)(h3:ys.length=xs.length)
  (i1:∀ j (h:j < items.size),∃ t,items[j]=.int (xs.getD j 0) t) (i2:∀ j (h:j < items2.size),∃ t,items2[j]=.int (ys.getD j 0) t):
  Meets (Builtin.«tuple.__lt__» ⟨[.ref l,.ref b],[]⟩)
   (fun A R s=>s.heap.get? l=some {cls:=.type "tuple",data:=.seq items n} /\ s.heap.get? b=some {cls:=.type "tuple",data:=.seq items2 n2} /\ R (.ok (.ret (.bool (Yp xs ys)))) s):=
 .of_wp fun prog w A R s h=>by
  obtain⟨hp,g,d,tk,os⟩:=s;obtain⟨hl,hb,h⟩:=h;have f2:=AutoSeq1.sub_tuple_tuple;have hZ:(items.toList.zip items2.toList).length=xs.length:=by rw[length_zip,length_toList,length_toList,h1,h2,min_self]
  wp_walk using wpAny_loadPart' hl,wpAny_loadPart' hb,wpAny_forIn_list _ (fun rest b s'=>b.1=none /\ s'=⟨hp,g,d,tk,os⟩ /\ ∃ i,rest=(items.toList.zip items2.toList).drop i /\ R (.ok (.ret (.bool (Yp (xs.drop i) (ys.drop i))))) ⟨hp,g,d,tk,os⟩) _
  case turn=>
   rintro⟨y,x⟩ rest b s' ⟨hb',rfl,i,hz,hR⟩
   have hlt:i < (items.toList.zip items2.toList).length:=by
    rcases lt_or_ge i (items.toList.zip items2.toList).length with h' | h'
    ·exact h'
    ·rw[drop_of_length_le h'] at hz;cases hz
   have hm:i < xs.length:=hZ ▸ hlt;rw[drop_eq_getElem_cons hlt] at hz;injection hz with hyx hrest
   have hy:y=items[i]:=by have:=congrArg Prod.fst hyx;simpa using this
   have hx:x=items2[i]:=by have:=congrArg Prod.snd hyx;simpa using this
   obtain⟨t,e1⟩:=i1 i (h1 ▸ hm);obtain⟨u,e2⟩:=i2 i (h2 ▸ hm);rw[e1] at hy;rw[e2] at hx;subst hy hx;have d1:xs.drop i=xs.getD i 0::xs.drop (i + 1):=by rw[drop_eq_getElem_cons hm,getD_eq_getElem?_getD,getElem?_eq_getElem hm];rfl
   have d2:ys.drop i=ys.getD i 0::ys.drop (i + 1):=by rw[drop_eq_getElem_cons (h3 ▸ hm),getD_eq_getElem?_getD,getElem?_eq_getElem (h3 ▸ hm)];rfl
   rw[d1,d2] at hR;refine wpAny_bind (EqAt.int_int _ t _ u prog w _ _ ?_);unfold Yp at hR;cases hq:(xs.getD i 0 == ys.getD i 0) with
   | true=>
    rw[hq] at hR
    wp_walk
    exact⟨rfl,rfl,i + 1,hrest,hR⟩
   | false=>
    rw[hq] at hR
    wp_walk using Hi
    exact⟨_,rfl,hR⟩
  case fin=>
   rintro⟨b1,b2⟩ s' ⟨hb',rfl,i,hz,hR⟩;simp only at hb';subst hb'
   have hge:xs.length ≤ i:=by
    rcases lt_or_ge i (items.toList.zip items2.toList).length with h' | h'
    ·rw[drop_eq_getElem_cons h'] at hz;cases hz
    ·exact hZ ▸ h'
   rw[drop_of_length_le hge] at hR
   wp_walk
   refine⟨_,rfl,?_⟩
   simpa [Builtin.Tuple.tupleCompareSizes,h1,h2,Yp] using hR
  case h=>
   exact⟨rfl,rfl,0,rfl,h⟩
set_option maxHeartbeats 2000000 in
theorem P3(l b:Addr)(items items2:Array Value)(n n2:Nat)(xs ys:List Int)(h1:items.size=xs.length)(h2:items2.size=xs.length)(h3:ys.length=xs.length)
  (i1:∀ j (h:j < items.size),∃ t,items[j]=.int (xs.getD j 0) t) (i2:∀ j (h:j < items2.size),∃ t,items2[j]=.int (ys.getD j 0) t):
  Meets (Builtin.«tuple.__gt__» ⟨[.ref l,.ref b],[]⟩)
   (fun A R s=>s.heap.get? l=some {cls:=.type "tuple",data:=.seq items n} /\ s.heap.get? b=some {cls:=.type "tuple",data:=.seq items2 n2} /\ R (.ok (.ret (.bool (Yp ys xs)))) s):=
 .of_wp fun prog w A R s h=>by
  obtain⟨hp,g,d,tk,os⟩:=s;obtain⟨hl,hb,h⟩:=h;have f2:=AutoSeq1.sub_tuple_tuple;have hZ:(items.toList.zip items2.toList).length=xs.length:=by rw[length_zip,length_toList,length_toList,h1,h2,min_self]
  wp_walk using wpAny_loadPart' hl,wpAny_loadPart' hb,wpAny_forIn_list _ (fun rest b s'=>b.1=none /\ s'=⟨hp,g,d,tk,os⟩ /\ ∃ i,rest=(items.toList.zip items2.toList).drop i /\ R (.ok (.ret (.bool (Yp (ys.drop i) (xs.drop i))))) ⟨hp,g,d,tk,os⟩) _
  case turn=>
   rintro⟨y,x⟩ rest b s' ⟨hb',rfl,i,hz,hR⟩
   have hlt:i < (items.toList.zip items2.toList).length:=by
    rcases lt_or_ge i (items.toList.zip items2.toList).length with h' | h'
    ·exact h'
    ·rw[drop_of_length_le h'] at hz;cases hz
   have hm:i < xs.length:=hZ ▸ hlt;rw[drop_eq_getElem_cons hlt] at hz;injection hz with hyx hrest
   have hy:y=items[i]:=by have:=congrArg Prod.fst hyx;simpa using this
   have hx:x=items2[i]:=by have:=congrArg Prod.snd hyx;simpa using this
   obtain⟨t,e1⟩:=i1 i (h1 ▸ hm);obtain⟨u,e2⟩:=i2 i (h2 ▸ hm);rw[e1] at hy;rw[e2] at hx;subst hy hx;have d1:xs.drop i=xs.getD i 0::xs.drop (i + 1):=by rw[drop_eq_getElem_cons hm,getD_eq_getElem?_getD,getElem?_eq_getElem hm];rfl
   have d2:ys.drop i=ys.getD i 0::ys.drop (i + 1):=by rw[drop_eq_getElem_cons (h3 ▸ hm),getD_eq_getElem?_getD,getElem?_eq_getElem (h3 ▸ hm)];rfl
   rw[d1,d2] at hR;refine wpAny_bind (EqAt.int_int _ t _ u prog w _ _ ?_);unfold Yp at hR;rw[show(ys.getD i 0 == xs.getD i 0)=(xs.getD i 0 == ys.getD i 0) from BEq.comm] at hR;cases hq:(xs.getD i 0 == ys.getD i 0) with
   | true=>
    rw[hq] at hR
    wp_walk
    exact⟨rfl,rfl,i + 1,hrest,hR⟩
   | false=>
    rw[hq] at hR
    wp_walk using Hj
    exact⟨_,rfl,hR⟩
  case fin=>
   rintro⟨b1,b2⟩ s' ⟨hb',rfl,i,hz,hR⟩;simp only at hb';subst hb'
   have hge:xs.length ≤ i:=by
    rcases lt_or_ge i (items.toList.zip items2.toList).length with h' | h'
    ·rw[drop_eq_getElem_cons h'] at hz;cases hz
    ·exact hZ ▸ h'
   rw[drop_of_length_le hge,drop_of_length_le (h3 ▸ hge)] at hR
   wp_walk
   refine⟨_,rfl,?_⟩
   simpa [Builtin.Tuple.tupleCompareSizes,h1,h2,Yp] using hR
  case h=>
   exact⟨rfl,rfl,0,rfl,h⟩
section
variable{prog:Program}{w:World}{A:Around}{E:Value->Shared->Prop}{s:Shared}
theorem Vq{sl:Addr}{k n:Nat}{u:Tok}{Q:Int × Int × Nat->Shared->Prop}(hs:s.heap.IsSliceOf sl .none (.int k u) .none)(hk:k ≤ n)(h:Q (0,1,k) s):wpAny (model prog w) A (Builtin.Slice.sliceApplied (.ref sl) (pure (n:Int))) Q E s:=by
 obtain⟨os,hos,hcs,hds⟩:=id hs
 delta Builtin.Slice.sliceApplied Builtin.Slice.sliceFields
 refine wpAny_bind (wpAny_bind (wpAny_field hos hds (x:=.none) rfl (wpAny_bind (wpAny_field hos hds (x:=.int k u) rfl (wpAny_bind (wpAny_field hos hds (x:=.none) rfl (wpAny_pure ?_)))))));refine wpAny_bind (PyProof.Rows.slicePart_none ?_);show wpAny _ _ (if ((1:Int) == 0)=true then _ else _) _ _ s;rw[if_neg (by decide)];refine wpAny_bind (PyProof.Rows.slicePart_none (wpAny_bind (PyProof.Rows.slicePart_int (wpAny_bind (wpAny_pure ?_)))));show wpAny _ _ (match Builtin.Slice.sliceAdjust none (some (k:Int)) 1 (n:Int) with | (lo,hi)=>pure (lo,(1:Int),Builtin.Slice.slicePlaces lo hi 1)) _ _ s
 have e1:Builtin.Slice.sliceAdjust none (some (k:Int)) 1 (n:Int)=(0,(k:Int)):=by
  delta Builtin.Slice.sliceAdjust
  simp only[show ¬ ((1:Int) < 0) by decide,show ¬ ((k:Int) < 0) from Int.not_lt.mpr (natCast_nonneg k),if_false];rw[Int.min_eq_left (ofNat_le.mpr hk)]
 have e2:Builtin.Slice.slicePlaces 0 (k:Int) 1=k:=by
  delta Builtin.Slice.slicePlaces
  simp only[show(1:Int) > 0 by decide,if_true,Int.ediv_one];split <;> omega
 rw[e1];show wpAny _ _ (pure ((0:Int),(1:Int),Builtin.Slice.slicePlaces 0 (k:Int) 1)) _ _ s;rw[e2];exact wpAny_pure h
theorem Qi{t sl:Addr}{items:Array Value}{k:Nat}{u:Tok}{Q:Value->Shared->Prop}(ht:IsTup s.heap t items)(hs:s.heap.IsSliceOf sl .none (.int k u) .none)(hk:k ≤ items.size)
  (h1:k=items.size->Q (.ref t) s) (h2:Q (.ref s.heap.objs.size) {s with heap:=s.heap.push {cls:=.type "tuple",data:=.seq (items.toList.take k).toArray}}) (hsz:items.size ≤ sizeLine):wpAny (model prog w) A (getItem (.ref t) (.ref sl)) Q E s:=by
 obtain⟨os,hos,hcs,hds⟩:=id hs;have hTs:s.TypeIs (.ref sl) "slice" :=⟨os,hos,hcs⟩
 delta getItem
 try with_reducible refine wpAny_holding ?_
 first | refine wpAny_bind (wpAny_pure ?_) | skip
 refine wpAny_bind (wpAny_sequenceKey ht.typeIs (by decide) ?_)
 refine wpAny_bind (wpAny_callSpecial?_slot (name:=Str.ofString "__getitem__") ht.typeIs PyProof.Rows.slot_tuple_getitem
  (wpAny_call_entry PyProof.Rows.slot_tuple_getitem ht.typeIs PyProof.Rows.entry_tuple_getitem ?_ (PyProof.Rows.args_tuple_getitem _ _)))
 show wpAny _ _ (Builtin.Tuple.tupleItemsOf (.ref t) >>= _) _ _ s;refine wpAny_bind (PyProof.Rows.tupleItemsOf_ ht ?_);refine wpAny_bind (wpAny_typeOf hTs ?_);rw[if_pos (by decide)];refine wpAny_bind (Vq hs hk ?_);show wpAny _ _ (if ((0:Int) == 0 && (1:Int) == 1 && k == items.size)=true then _ else _) _ _ s
 by_cases hkn:k=items.size
 ·rw[if_pos (by simp[hkn])];refine wpAny_bind (m:=Builtin.Tuple.tupleIsExact _) ?_
  delta Builtin.Tuple.tupleIsExact
  refine wpAny_bind (wpAny_typeOf ht.typeIs (wpAny_pure ?_));rw[if_pos (by decide)];exact wpAny_bind (wpAny_rule (wpAny_pure ⟨_,rfl,wpAny_pure (h1 hkn)⟩))
 ·rw[if_neg (by simp[hkn])]
  have e:((List.range k).filterMap fun(j:Nat)=>items[((0:Int) + (j:Int) * 1).toNat]?).toArray=(items.toList.take k).toArray:=by
   have h3:=pick_run items 0 k;rw[List.filterMap_map,List.drop_zero] at h3;rw[<- h3];exact congrArg (fun f=>(List.filterMap f (List.range k)).toArray) (funext fun j=>by rw[Int.zero_add,Int.mul_one,toNat_natCast];show _=items[0 + j]?;rw[zero_add])
  rw[e]
  have hdrop:sizeOk (.seq (items.toList.take k).toArray):=by
   show(items.toList.take k).toArray.size ≤ sizeLine;rw[List.size_toArray,length_take];exact le_trans (min_le_right ..) hsz
  exact wpAny_bind (m:=Builtin.Tuple.tupleExact _) (wpAny_newObj_type (wpAny_pure ⟨_,rfl,wpAny_pure h2⟩) hdrop)
end
theorem Rr{prog:Program}{w:World}{Z:ZM}{xs:List Int}{its:Array Value}(h:VsRel prog w Z (xs.map V.int) its.toList){j:Nat}(hj:j < its.size):∃ t,its[j]=.int (xs.getD j 0) t:=by
 obtain⟨a,t,e1,e2⟩:=h.intAt (i:=j) (v:=its[j]) (by rw[getElem?_toList];exact Array.getElem?_eq_getElem hj);exact⟨t,by rw[e2,getD_eq_getElem?_getD,e1];rfl⟩
section
variable{X:Cx}{B B':St}{Z Z':ZM}{s s':Shared}{P:V->St->Prop}
theorem VsRel.take{prog:Program}{w:World}{Z:ZM}:∀ (k:Nat) {l:List V} {vs:List Value},VsRel prog w Z l vs->VsRel prog w Z (l.take k) (vs.take k)
 | 0,_,_,_=>rfl
 | _ + 1,[],_,h=>by cases (show _=[] from h);exact rfl
 | k + 1,_::_,_,h=>by obtain⟨v,r,rfl,h1,h2⟩:=h;exact⟨v,_,rfl,h1,VsRel.take k h2⟩
theorem SUB.tupTo{l:List V}{k:Nat}(hk:k ≤ l.length)(hl:l.length ≤ 1000)(h:P (.tup (l.take k)) B):SUB X (.tup l) (.slc Option.none (some (k:Int)) Option.none) B P:=fun Z s v1 v2 r e1 e2=>by
 obtain⟨a,its,n,rfl,ha,hr⟩:=e1;obtain⟨b,lv,uv,sv,rfl,hb,p1,p2,p3⟩:=e2;cases p1;cases p2;cases p3;have hT:IsTup s.heap a its:=r.ptup ha;have hz:its.size=l.length:=hr.length';refine⟨⟨_,_,hT.typeIs,PyProof.Rows.slot_tuple_getitem.lookup⟩,?_⟩;refine Qi hT ⟨_,r.zin _ _ hb,rfl,rfl⟩ (by rw[hz];exact hk) (fun e=>?_) ?_ (by rw[hz];exact le_trans hl (by decide))
 ·rw[take_of_length_le (by rw[e,hz];exact le_refl _)] at h;exact Z7 (Ext.refl r) (Ue ha hr) h
 ·obtain⟨x,hle⟩:=(Ext.refl r).pushZ {cls:=.type "tuple",data:=.seq (its.toList.take k).toArray};exact Z7 x (Ue Zput.self (VsRel.mono hle (VsRel.take k hr))) h
theorem CMP.ltt{k:Nat}{xs ys:List Int}(hA:Rm X.A k)(hl:ys.length=xs.length)(h:P (.bool (Yp xs ys)) B):CMP X .Lt (.tup (xs.map V.int)) (.tup (ys.map V.int)) B P:=fun Z s v u r h1 h2=>by
 obtain⟨a,ia,na,rfl,za,ra⟩:=h1;obtain⟨b,ib,nb,rfl,zb,rb⟩:=h2
 exact richCompare_meets_room (op:=.Lt) ⟨_,r.zin _ _ za,rfl⟩ ⟨_,r.zin _ _ zb,rfl⟩ F.slot_tuple_lt F.entry_tuple_lt (F.args_tuple_lt_2 _ _)
  (P2 a b ia ib na nb xs ys (by rw[ra.length',length_map]) (by rw[rb.length',length_map,hl]) hl (fun j h=>Rr ra h) (fun j h=>Rr rb h))
  ⟨r.zin _ _ za,r.zin _ _ zb,show Value.bool _ ≠ Value.notImplemented /\ _ from⟨(fun x=>nomatch x),Z7 (Ext.refl r) Zg h⟩⟩ (lt_of_le_of_lt (le_add_right _ 0) (hA.clN (n:=0) (by decide)))
theorem CMP.gtt{k:Nat}{xs ys:List Int}(hA:Rm X.A k)(hl:ys.length=xs.length)(h:P (.bool (Yp ys xs)) B):CMP X .Gt (.tup (xs.map V.int)) (.tup (ys.map V.int)) B P:=fun Z s v u r h1 h2=>by
 obtain⟨a,ia,na,rfl,za,ra⟩:=h1;obtain⟨b,ib,nb,rfl,zb,rb⟩:=h2
 exact richCompare_meets_room (op:=.Gt) ⟨_,r.zin _ _ za,rfl⟩ ⟨_,r.zin _ _ zb,rfl⟩ F.slot_tuple_gt F.entry_tuple_gt (F.args_tuple_gt_2 _ _)
  (P3 a b ia ib na nb xs ys (by rw[ra.length',length_map]) (by rw[rb.length',length_map,hl]) hl (fun j h=>Rr ra h) (fun j h=>Rr rb h))
  ⟨r.zin _ _ za,r.zin _ _ zb,show Value.bool _ ≠ Value.notImplemented /\ _ from⟨(fun x=>nomatch x),Z7 (Ext.refl r) Zg h⟩⟩ (lt_of_le_of_lt (le_add_right _ 0) (hA.clN (n:=0) (by decide)))
theorem BIN.subB{a b:Bool}(h:P (.int (b2i a - b2i b)) B):BIN X .Sub (.bool a) (.bool b) B P:=fun Z s v1 v2 r h1 h2=>by
 cases h1;cases h2;exact PyProof.Rows.sub_bool (here (Ext.refl r).toks Zu h)
end
noncomputable def RcW(prog:Program)(w:World)(A:Around)(s:Shared)(y x:Value):Prop:=∀ (E:Value->Shared->Prop) (Q:Value->Shared->Prop),Q (.bool true) s->wpAny (model prog w) A (richCompare .Eq y x) Q E s
section
variable{prog:Program}{w:World}{K:Type}[DecidableEq K]{knd:KeyKind prog w K}{A:Around}{E:Value->Shared->Prop}{s:Shared}
theorem EqW.ofRc{a b:Addr}(h:RcW prog w A s (.ref a) (.ref b)):EqW prog w A s (.ref a) (.ref b):=by
 by_cases e:a=b
 ·subst e;exact EqW.of (EqAt.same _)
 ·exact EqW.refs e fun E Q hq=>h E Q hq
noncomputable def J5(prog:Program)(w:World)(A:Around)(s:Shared)(ka kb:List (K × Value)):Prop:=∀ (i:Nat) k v,ka[i]?=some (k,v)->∃ y,valueAt kb k=some y /\ EqW prog w A s v y
theorem Tu{nm:String}{a b:Addr}{ka kb:List (K × Value)}{Q:Bool->Shared->Prop}(ha:(a == sysModules)=false)(hb:(b == sysModules)=false)
  (da:s.heap.DictOf knd a ka) (db:s.heap.DictOf knd b kb) (hl:ka.length=kb.length) (hits:J5 prog w A s ka kb) (h:Q true s):wpAny (model prog w) A (Builtin.Dict.samePairs nm a b) Q E s:=by
 obtain⟨oa,es,ep,hoa,_,hda,hka,hpa,_⟩:=da;obtain⟨ob,es',ep',hob,_,hdb,hkb,hpb,_⟩:=db;have hla:ka.length=es.size:=by rw[<- hpa.length];exact length_toList
 have hlb:kb.length=es'.size:=by rw[<- hpb.length];exact length_toList
 have hfind:∀ k,findBy knd.is es' k=valueAt kb k:=fun k=>by
  rw[<- hpb.find k];clear hlb hpb hkb hdb hob;obtain⟨l⟩:=es';simp[findBy]
 delta Builtin.Dict.samePairs Builtin.Dict.showsAll
 rw[if_neg (show ¬ (a == sysModules)=true by rw[ha];exact Bool.false_ne_true),if_neg (show ¬ (b == sysModules)=true by rw[hb];exact Bool.false_ne_true)];refine wpAny_bind (wpAny_pure (wpAny_bind (wpAny_pure ?_)));refine wpAny_bind (wpAny_dictEntries hoa hda ?_);dsimp only;refine wpAny_bind (wpAny_dictEntries hob hdb ?_);have hsz:es.size=es'.size:=hla.symm.trans (hl.trans hlb);rw[if_neg (by rw[hsz];simp)];refine wpAny_bind (wpAny_dictEpoch hoa hda ?_);refine wpAny_bind ?_;rw[Std.Legacy.Range.forIn_eq_forIn_range'];simp only[Std.Legacy.Range.size,Nat.sub_zero,Nat.add_sub_cancel,Nat.div_one];refine wpAny_forIn_list _ (fun rest q s'=>s'=s /\ q=(none,()) /\ ∃ i,rest=range' i (es.size - i)) _ ?_ ?_ _ _ ⟨rfl,rfl,0,rfl⟩
 ·rintro x rest q s' ⟨rfl,rfl,i,hr⟩
  have hlt:i < es.size:=by
   rcases lt_or_ge i es.size with h | h
   ·exact h
   ·rw[Nat.sub_eq_zero_of_le h] at hr;exact(nomatch hr)
  have e:es.size - i=(es.size - (i + 1)) + 1:=by rw[Nat.sub_succ',Nat.sub_add_cancel (Nat.sub_pos_of_lt hlt)]
  rw[e,List.range'_succ] at hr;obtain⟨rfl,hrest⟩:=List.cons.inj hr;refine wpAny_bind (wpAny_dictEntries hoa hda ?_);rw[Array.getElem?_eq_getElem hlt];have hlt':x < ka.length:=by rw[hla];exact hlt
  obtain⟨k,v,hkv⟩:∃ k v,ka[x]=(k,v):=⟨_,_,rfl⟩
  have hkv2:ka[x]?=some (k,v):=by rw[getElem?_eq_getElem hlt',hkv]
  obtain⟨hkey,hval⟩:=hpa.get? (i:=x) (e:=es[x]) (k:=k) (v:=v) (by rw[getElem?_toList];exact Array.getElem?_eq_getElem hlt) hkv2;obtain⟨k',hk',hh⟩:=hka es[x] (Array.getElem_mem hlt);rw[knd.inj _ _ _ hk' hkey] at hh;show wpAny _ _ (holding [es[x].key,es[x].val] _ >>= _) _ _ _;rw[hh];refine wpAny_bind (wpAny_holding (wpAny_bind (wpAny_dictFind_of hkey hob hdb hkb ?_)));obtain⟨y,hy,he⟩:=hits x k v hkv2;rw[<- hfind k,findBy_of_findIdx?] at hy;generalize hj:(es'.findIdx? fun e=>knd.is k e.key)=jo at *
  match jo,hj,hy with
  | some j,hj,hy=>
   obtain⟨hjlt,_,_⟩:=Array.findIdx?_eq_some_iff_getElem.mp hj;refine wpAny_bind (wpAny_dictEntries hob hdb ?_);rw[Array.getElem?_eq_getElem hjlt]
   have ey:es'[j].val=y:=by
    have hy:Option.map (fun x=>x.val) es'[j]?=some y:=hy;rw[Array.getElem?_eq_getElem hjlt] at hy;exact Option.some.inj hy
   rw[<- ey,<- hval] at he;refine wpAny_holding (he _ _ ?_);rw[if_neg (by decide)];refine wpAny_bind (wpAny_dictEpoch hoa hda ?_);rw[if_neg (by simp)];exact wpAny_pure ⟨rfl,rfl,x + 1,hrest⟩
 ·rintro q s' ⟨rfl,rfl,_⟩;exact wpAny_pure h
theorem Ks{a b:Addr}{ka kb:List (K × Value)}(ha:(a == sysModules)=false)(hb:(b == sysModules)=false)
  (da:s.heap.DictOf knd a ka) (db:s.heap.DictOf knd b kb) (hu:A.units < cLine) (hl:ka.length=kb.length) (hits:J5 prog w A.in1 s ka kb):RcW prog w A s (.ref a) (.ref b):=fun E Q h=>by
 refine wpAny_richCompare_same_room (op:=.Eq) da.typeIs db.typeIs PySem.F.slot_dict_eq (wpAny_call_entry PySem.F.slot_dict_eq da.typeIs PySem.F.entry_dict_eq ?_ (PySem.F.args_dict_eq_2 _ _)) hu;refine wpAny_bind ?_
 delta Builtin.Dict.dictSlotArgs
 refine wpAny_bind (wpAny_notOrdered_dict da.typeIs ?_);refine wpAny_pure ?_;refine wpAny_bind (wpAny_isInstance (T:= "dict") db.typeIs PySem.F.sub_dict_dict ?_);simp only[Bool.not_true,false_eq_true,if_false];refine wpAny_bind (wpAny_pure (wpAny_bind (wpAny_pure ?_)));refine wpAny_bind (Tu ha hb da db hl hits ?_);exact wpAny_pure ⟨_,rfl,(fun x=>nomatch x),h⟩
theorem Kr{a b:Addr}{ka kb:List (K × Value)}{Q:Value->Shared->Prop}(ha:(a == sysModules)=false)(hb:(b == sysModules)=false)
  (da:s.heap.DictOf knd a ka) (db:s.heap.DictOf knd b kb) (hu:A.units < cLine) (hl:ka.length=kb.length) (hits:J5 prog w A.in1 s ka kb) (h:Q (.bool false) s):wpAny (model prog w) A (richCompare .NotEq (.ref a) (.ref b)) Q E s:=by
 refine wpAny_richCompare_same_room (op:=.NotEq) da.typeIs db.typeIs PySem.F.slot_dict_ne (wpAny_call_entry PySem.F.slot_dict_ne da.typeIs PySem.F.entry_dict_ne ?_ (PySem.F.args_dict_ne_2 _ _)) hu;refine wpAny_bind ?_
 delta Builtin.Dict.dictSlotArgs
 refine wpAny_bind (wpAny_notOrdered_dict da.typeIs ?_);refine wpAny_pure ?_;refine wpAny_bind (wpAny_isInstance (T:= "dict") db.typeIs PySem.F.sub_dict_dict ?_);simp only[Bool.not_true,false_eq_true,if_false];refine wpAny_bind (wpAny_pure (wpAny_bind (wpAny_pure ?_)));refine wpAny_bind (Tu ha hb da db hl hits ?_);exact wpAny_pure ⟨_,rfl,(fun x=>nomatch x),h⟩
theorem Jl{a b:Addr}{xs ys:Array Value}(hx:s.heap.IsTuple a xs)(hy:s.heap.IsTuple b ys)(hsz:xs.size=ys.size)(hu:A.units < cLine)
  (he:∀ j (h1:j < xs.size) (h2:j < ys.size),EqW prog w A.in1 s xs[j] ys[j]):RcW prog w A s (.ref a) (.ref b):=fun E Q h=>by
 have T1:s.TypeIs (.ref a) "tuple" :=by obtain⟨o,ho,hc,_⟩:=hx;exact⟨o,ho,hc⟩
 have T2:s.TypeIs (.ref b) "tuple" :=by obtain⟨o,ho,hc,_⟩:=hy;exact⟨o,ho,hc⟩
 exact wpAny_richCompare_same_room (op:=.Eq) T1 T2 F.slot_tuple_eq (wpAny_call_entry F.slot_tuple_eq T1 F.entry_tuple_eq (Uy hx hy hsz he ⟨_,rfl,(fun e=>nomatch e),h⟩) (F.args_tuple_eq_2 _ _)) hu
theorem Pi{l b:Addr}{items items2:Array Value}(hl:s.heap.IsList l items)(hb:s.heap.IsList b items2)(hsz:items.size=items2.size){R:Result->Shared->Prop}(he:∀ j (h1:j < items.size) (h2:j < items2.size),EqW prog w A.in1 s items[j] items2[j])(h:R (.ok (.ret (.bool true))) s)(k:Nat):
  ∀ i:Nat,items.size - i=k->wpAny (model prog w) A.in1 (Builtin.«list.__eq__.loop» ⟨[.ref l,.ref b,rawInt i,rawInt 2],[]⟩) (fun fin s'=>match fin with | .done f=>R (.ok f) s' | .again c'=>c'.quiet=true /\ codeAny (model prog w) A c' R s') (fun e s'=>R (.error e) s') s:=by
 obtain⟨ol,hol,_,nl,hdl⟩:=hl;obtain⟨ob,hob,_,nb,hdb⟩:=hb
 induction k with
 | zero=>
  intro i hk;have hi1:items[((i:Nat):Int).toNat]?=none:=Array.getElem?_eq_none (Nat.le_of_sub_eq_zero hk);refine wpAny_bind (wpAny_listItems hol hdl ?_);refine wpAny_bind (wpAny_listItems hob hdb ?_);rw[hi1];refine wpAny_bind (wpAny_listItems hol hdl ?_);refine wpAny_bind (wpAny_listItems hob hdb ?_);refine wpAny_pure ?_;show R (.ok (.ret (.bool (items.size == items2.size)))) _;rw[hsz,beq_self_eq_true];exact h
 | succ k ih=>
  intro i hk;have hlt:i < items.size:=Nat.lt_of_sub_pos (hk ▸ succ_pos k);have hlt2:i < items2.size:=hsz ▸ hlt;have hi1:items[((i:Nat):Int).toNat]?=some items[i]:=Array.getElem?_eq_getElem hlt;have hi2:items2[((i:Nat):Int).toNat]?=some items2[i]:=Array.getElem?_eq_getElem hlt2;refine wpAny_bind (wpAny_listItems hol hdl ?_);refine wpAny_bind (wpAny_listItems hob hdb ?_);rw[hi1,hi2];refine wpAny_bind (he i hlt hlt2 _ _ ?_);rw[if_pos rfl];refine wpAny_bind (wpAny_pure ?_);refine wpAny_pure ⟨plainId_quiet PySem.MeetsSeq3.plain_eq_loop _,codeAny_builtin PySem.MeetsSeq3.entry_eq_loop ?_⟩;rw[Around.under_plainId PySem.MeetsSeq3.plain_eq_loop _];exact ih (i + 1) (by rw[Nat.sub_succ',hk];rfl)
theorem Ka{l b:Addr}{items items2:Array Value}(hl:s.heap.IsList l items)(hb:s.heap.IsList b items2)(hsz:items.size=items2.size)(hu:A.units < cLine)
  (he:∀ j (h1:j < items.size) (h2:j < items2.size),EqW prog w A.in1 s items[j] items2[j]):RcW prog w A s (.ref l) (.ref b):=fun E Q h=>by
 have T1:s.TypeIs (.ref l) "list" :=by obtain⟨o,ho,hc,_⟩:=hl;exact⟨o,ho,hc⟩
 have T2:s.TypeIs (.ref b) "list" :=by obtain⟨o,ho,hc,_⟩:=hb;exact⟨o,ho,hc⟩
 refine wpAny_richCompare_same_room (op:=.Eq) T1 T2 F.slot_list_eq (wpAny_call (codeAny_call_builtin F.slot_list_eq.plain F.entry_list_eq (F.slot_list_eq.check _ _ _ _ _ _ _ _ T1 (F.args_list_eq_2 _ _) ?_))) hu;obtain⟨ol,hol,_,nl,hdl⟩:=id hl;obtain⟨ob,hob,_,nb,hdb⟩:=id hb;show wpAny _ _ (isInstance (.ref b) (.type "list") >>= _) _ _ s;refine wpAny_bind (wpAny_isInstance T2 AutoSeq1.sub_list_list ?_);simp only[Bool.not_true,false_eq_true,if_false];refine wpAny_bind (wpAny_listItems hol hdl ?_);refine wpAny_bind (wpAny_listItems hob hdb ?_);rw[hsz,bne_self_eq_false];refine wpAny_pure ⟨plainId_quiet PySem.MeetsSeq3.plain_eq_loop _,codeAny_builtin PySem.MeetsSeq3.entry_eq_loop ?_⟩;rw[Around.under_plainId PySem.MeetsSeq3.plain_eq_loop _];exact Pi (R:=wants (fun v s'=>v ≠ .notImplemented /\ Q v s') E) hl hb hsz he ⟨(fun e=>nomatch e),h⟩ _ 0 rfl
end
inductive SQ:Nat->V->V->Prop
 | bool (n b):SQ n (.bool b) (.bool b)
 | int (n i):SQ n (.int i) (.int i)
 | str (n x):SQ n (.str x) (.str x)
 | tup {n l l'} (hl:l.length=l'.length) (h:∀ (i:Nat) d d',l[i]?=some d->l'[i]?=some d'->SQ n d d'):SQ (n + 1) (.tup l) (.tup l')
 | list {n l l'} (hl:l.length=l'.length) (h:∀ (i:Nat) d d',l[i]?=some d->l'[i]?=some d'->SQ n d d'):SQ (n + 1) (.list l) (.list l')
 | sdict {n ks ls ks' ls'} (g:Str->V) (hk:ks.length=ks'.length) (hv:∀ k ∈ ks,vat ks' ls' k=some (g k)) (h:∀ (i:Nat) k d,ks[i]?=some k->ls[i]?=some d->SQ n d (g k)):SQ (n + 1) (.sdict ks ls) (.sdict ks' ls')
section
variable{X:Cx}{B B':St}{Z Z':ZM}{s s':Shared}{P:V->St->Prop}
theorem Q7{n:Nat}{A:Around}{l l':List V}{its its':Array Value}(hr:VsRel X.prog X.w Z l its.toList)(hr':VsRel X.prog X.w Z l' its'.toList)(h:∀ (i:Nat) d d',l[i]?=some d->l'[i]?=some d'->SQ n d d')
  (ih:∀ (i:Nat) d d',l[i]?=some d->l'[i]?=some d'->∀ v u,VRel X.prog X.w Z d v->VRel X.prog X.w Z d' u->EqW X.prog X.w A s v u) (j:Nat) (h1:j < its.size) (h2:j < its'.size):EqW X.prog X.w A s its[j] its'[j]:=by
 have e1:its.size=l.length:=hr.length;have e2:its'.size=l'.length:=hr'.length;exact ih j _ _ (getElem?_eq_getElem (e1 ▸ h1)) (getElem?_eq_getElem (e2 ▸ h2)) _ _ (hr.at j (e1 ▸ h1) h1) (hr'.at j (e2 ▸ h2) h2)
theorem Oa{n:Nat}{A:Around}{ks ks':List Str}{ls ls':List V}{us us':List Value}{g:Str->V}(hu:ks.length=us.length)(hr:VsRel X.prog X.w Z ls us)(hr':VsRel X.prog X.w Z ls' us')(hv:∀ k ∈ ks,vat ks' ls' k=some (g k))
  (ih:∀ (i:Nat) k d,ks[i]?=some k->ls[i]?=some d->∀ v u,VRel X.prog X.w Z d v->VRel X.prog X.w Z (g k) u->EqW X.prog X.w A s v u):J5 X.prog X.w A s (ks.zip us) (ks'.zip us'):=fun i k v hi=>by
 obtain⟨h1,h2⟩:=getElem?_zip_eq_some.mp hi;obtain⟨u,hu1,hu2⟩:=hr'.vat (hv k (mem_of_getElem? h1));have hil:i < ls.length:=by rw[<- hr.length];exact(List.getElem?_eq_some_iff.mp h2).1
 obtain⟨v',hv1,hv2⟩:=hr.get (getElem?_eq_getElem hil);rw[h2] at hv1;cases hv1;exact⟨u,vat_valueAt.trans hu1,ih i k _ h1 (getElem?_eq_getElem hil) _ _ hv2 hu2⟩
theorem Ob(r:Rel X B Z s){n:Nat}{d e:V}(h:SQ n d e):∀ (A:Around) v u,VRel X.prog X.w Z d v->VRel X.prog X.w Z e u->A.units + n < cLine->EqW X.prog X.w A s v u /\ RcW X.prog X.w A s v u:=by
 have hz:=r.zin
 induction h with
 | bool n b=>intro A v u h1 h2 _;cases (show v=.bool _ from h1);cases (show u=.bool _ from h2);have:=RcAt.bool_bool (A:=A) (s:=s) b b;rw[beq_self_eq_true] at this;exact⟨EqW.of (EqAt.same _),fun E Q q=>this _ _ E Q q⟩
 | int n b=>intro A v u h1 h2 _;obtain⟨t,rfl⟩:=h1;obtain⟨t',rfl⟩:=h2;have x:=EqAt.int_int (A:=A) (s:=s) b t b t';have:=RcAt.int_int (A:=A) (s:=s) b t b t';rw[beq_self_eq_true] at this x;exact⟨EqW.of x,fun E Q q=>this _ _ E Q q⟩
 | str n b=>intro A v u h1 h2 _;obtain⟨t,rfl⟩:=h1;obtain⟨t',rfl⟩:=h2;have x:=EqAt.str_str (A:=A) (s:=s) b t b t';have:=RcAt.str_str (A:=A) (s:=s) b t b t';rw[beq_self_eq_true] at this x;exact⟨EqW.of x,fun E Q q=>this _ _ E Q q⟩
 | tup hl h ih=>
  intro A v u h1 h2 hu;obtain⟨a,its,m,rfl,z,hr⟩:=h1;obtain⟨a',its',m',rfl,z',hr'⟩:=h2;have e1:its.size=_:=hr.length;have e2:its'.size=_:=hr'.length;have R:=Jl (prog:=X.prog) (w:=X.w) (A:=A) ⟨_,hz _ _ z,rfl,_,rfl⟩ ⟨_,hz _ _ z',rfl,_,rfl⟩ (e1.trans (hl.trans e2.symm)) (lt_of_le_of_lt (le_add_right _ _) hu) (Q7 hr hr' h fun i d d' q1 q2 v u r1 r2=>(ih i d d' q1 q2 A.in1 v u r1 r2 (by show A.units + 1 + _ < cLine;rw[add_right_comm];exact hu)).1);exact⟨EqW.ofRc R,R⟩
 | list hl h ih=>
  intro A v u h1 h2 hu;obtain⟨a,its,m,rfl,z,hr⟩:=h1;obtain⟨a',its',m',rfl,z',hr'⟩:=h2;have e1:its.size=_:=hr.length;have e2:its'.size=_:=hr'.length;have R:=Ka (prog:=X.prog) (w:=X.w) (A:=A) ⟨_,hz _ _ z,rfl,_,rfl⟩ ⟨_,hz _ _ z',rfl,_,rfl⟩ (e1.trans (hl.trans e2.symm)) (lt_of_le_of_lt (le_add_right _ _) hu) (Q7 hr hr' h fun i d d' q1 q2 v u r1 r2=>(ih i d d' q1 q2 A.in1 v u r1 r2 (by show A.units + 1 + _ < cLine;rw[add_right_comm];exact hu)).1);exact⟨EqW.ofRc R,R⟩
 | sdict g hk hv h ih=>
  intro A v u h1 h2 hu;obtain⟨b,us,rfl,lo,zd,hlen,hrd⟩:=h1;obtain⟨b',us',rfl,lo',zd',hlen',hrd'⟩:=h2;have R:=Ks (prog:=X.prog) (w:=X.w) (A:=A) (Yt lo) (Yt lo') (r.pdict zd) (r.pdict zd') (lt_of_le_of_lt (le_add_right _ _) hu) (by rw[length_zip,length_zip,<- hlen,<- hlen',min_self,min_self];exact hk) (Oa (n:=0) hlen hrd hrd' hv fun i k d q1 q2 v u r1 r2=>(ih i k d q1 q2 A.in1 v u r1 r2 (by show A.units + 1 + _ < cLine;rw[add_right_comm];exact hu)).1);exact⟨EqW.ofRc R,R⟩
theorem SQ.listMap{α:Type}{n:Nat}{f g:α->V}{l:List α}(h:∀ x ∈ l,SQ n (f x) (g x)):SQ (n + 1) (.list (l.map f)) (.list (l.map g)):=.list (by rw[length_map,length_map]) fun i d d' h1 h2=>by
 rw[getElem?_map] at h1 h2;obtain⟨x,hx,rfl⟩:=Option.map_eq_some_iff.mp h1;rw[hx] at h2;cases h2;exact h x (mem_of_getElem? hx)
theorem SQ.tup2{n:Nat}{a b a' b':V}(h1:SQ n a a')(h2:SQ n b b'):SQ (n + 1) (.tup [a,b]) (.tup [a',b']):=.tup rfl fun i d d' e1 e2=>by
 match i,e1,e2 with
 | 0,e1,e2=>cases e1;cases e2;exact h1
 | 1,e1,e2=>cases e1;cases e2;exact h2
 | _ + 2,e1,_=>exact nomatch e1
theorem SUB.tupDrop{l:List V}{k:Nat}(h1:1 ≤ k /\ k ≤ l.length)(h2:l.length ≤ 1000)(h:P (.tup (l.drop k)) B):SUB X (.tup l) (.slc (some (k:Int)) Option.none Option.none) B P:=fun Z s v1 v2 r e1 e2=>by
 obtain⟨a,its,n,rfl,ha,hr⟩:=e1;obtain⟨b,lv,uv,sv,rfl,hb,p1,p2,p3⟩:=e2;cases p1;cases p2;cases p3;have hT:IsTup s.heap a its:=r.ptup ha;have hl:its.size=l.length:=hr.length';refine⟨⟨_,_,hT.typeIs,slot_tuple_getitem.lookup⟩,?_⟩;refine getItem_tuple_from (a:=k) hT ⟨_,r.zin _ _ hb,rfl,rfl⟩ h1.1 (hl ▸ h1.2) ?_ (by rw[hl];exact le_trans h2 (by decide));obtain⟨x,hle⟩:=(Ext.refl r).pushZ {cls:=.type "tuple",data:=.seq (its.toList.drop k).toArray};refine Z7 x (Ue Zput.self (VsRel.mono hle ?_)) h;clear x hle hl hT ha h h1 h2 hb;generalize its.toList=vs at *
 induction k generalizing l vs with
 | zero=>exact hr
 | succ k ih=>cases l with
  | nil=>cases (show vs=[] from hr);exact rfl
  | cons d l=>obtain⟨v,r,rfl,_,h2⟩:=hr;exact ih r h2
theorem CALL.countT{k:Nat}{e:V}{l:List V}{f:V->Bool}(n:Nat)(hA:Rm X.A k)(hf:∀ d ∈ l,veq n d e=some (f d))(h:P (.int (l.countP f:Nat)) B)(hn:n ≤ 700:=by decide):CALL X (.builtin "tuple.count") [.tup l,e] B P:=fun Z s vs r hvs=>by
 obtain⟨v,u,rfl,⟨a,its,m,rfl,ha,hr⟩,h1⟩:=vs2 hvs;obtain⟨g,hg,hm⟩:=Wm (A:=X.A.in1) r.zin hf hr h1 (hA.cl1 hn);refine call_meets F.slot_tuple_count ⟨_,r.zin _ _ ha,rfl⟩ F.entry_tuple_count (F.args_tuple_count_2 _ _) (tuple_countAt a its m none #[] u g) ⟨r.zin _ _ ha,hg,Z7 (Ext.refl r).toks (Wt ?_) h⟩;have e1:its.toList.countP g=(its.toList.map g).countP id:=by rw[countP_map];rfl
 rw[e1,hm,countP_map];rfl
theorem CALL.listR{n:Nat}(hA:X.A.handled=none)(hn:n ≤ 1000)(h:P (.list ((List.range n).map nat)) B):CALL X (.type "list") [.rng 0 n] B P:=fun Z s vs r hvs=>by
 obtain⟨v,rfl,p,t,u,x,rfl,ha⟩:=vs1 hvs;refine call_list_range hA (r.zin _ _ ha) (Ui (le_trans hn (by decide))) (n:=n) (by rw[Vr,sub_zero,toNat_natCast]) (le_trans hn (by decide)) fun h' tk acc' c' hk ho hacc=>?_;obtain⟨y,hle⟩:=Ext.addZ r (Ext.keepAll (tk:=tk) r hk) (ao:=s.heap.objs.size) ho (get?_none_of_le (le_refl _));refine Z7 y (Xz (l:=(List.range n).map nat) Zput.self (VsRel.of_get (by rw[length_toList,hacc.1,length_map,length_range]) fun i d v h1 h2=>?_)) h;rw[getElem?_map,Option.map_eq_some_iff] at h1;obtain⟨j,hj,rfl⟩:=h1
 have hj:j=i:=by
  have:=getElem?_range (length_range (n:=n) ▸ (List.getElem?_eq_some_iff.mp hj).1:i < n);rw[this] at hj;exact(Option.some.inj hj).symm
 subst hj;obtain⟨t',rfl⟩:=hacc.2 j v ((getElem?_toList ..).symm.trans h2);exact⟨t',by rw[Int.mul_one,Int.zero_add]⟩
theorem UNA.notB{b:Bool}(h:P (.bool (!b)) B):UNA X .Not (.bool b) B P:=fun Z s v1 r e=>by
 cases e;exact PyProof.Rows.not_of (wpAny_truthy_bool (here (Ext.refl r) Zg h))
theorem CMP.eqS{k:Nat}{d e:V}(n:Nat)(hA:Rm X.A k)(hb:SQ n d e)(h:P (.bool true) B)(hn:n ≤ 700:=by decide):CMP X .Eq d e B P:=fun Z s v u r h1 h2=>
 (Ob r hb X.A v u h1 h2 (hA.clN hn)).2 _ _ (Z7 (Ext.refl r) Zg h)
theorem CMP.neS{k:Nat}{ks ks':List Str}{ls ls':List V}{g:Str->V}(n:Nat)(hA:Rm X.A k)(hk:ks.length=ks'.length)(hv:∀ k ∈ ks,vat ks' ls' k=some (g k))(hs:∀ (i:Nat) k d,ks[i]?=some k->ls[i]?=some d->SQ n d (g k))(h:P (.bool false) B)(hn:n + 1 ≤ 700:=by decide):CMP X .NotEq (.sdict ks ls) (.sdict ks' ls') B P:=fun Z s v u r h1 h2=>by
 obtain⟨b,us,rfl,lo,zd,hlen,hrd⟩:=h1;obtain⟨b',us',rfl,lo',zd',hlen',hrd'⟩:=h2;have hu:=hA.clN hn;exact Kr (Yt lo) (Yt lo') (r.pdict zd) (r.pdict zd') (lt_of_le_of_lt (le_add_right _ _) hu) (by rw[length_zip,length_zip,<- hlen,<- hlen',min_self,min_self];exact hk) (Oa (n:=0) hlen hrd hrd' hv fun i k d q1 q2 v u r1 r2=>(Ob r (hs i k d q1 q2) X.A.in1 v u r1 r2 (by show X.A.units + 1 + _ < cLine;rw[add_right_comm];exact hu)).1) (Z7 (Ext.refl r) Zg h)
end
end Mine
end
section
open PySem PySem.W PyProof.Rows PySem.Spec
set_option maxHeartbeats 0
namespace Mine
abbrev pwL:Program:=PySem.Challenge.pw_wz0015_01
abbrev rwL:OpenLaw:=PySem.Challenge.rw_wz0015_01
noncomputable def Rh:List Stmt->Nat->Stmt
 | [],_=>.Pass ⟨0,0,0,0⟩
 | s::_,0=>s
 | _::l,i + 1=>Rh l i
noncomputable def Kx:Stmt->List Stmt
 | .ClassDef _ _ _ b _ _ _ _ _ _ _=>b
 | _=>[]
noncomputable def Xj(i:Nat):Stmt:=Rh pwL.main.body i
noncomputable def Oz(i j:Nat):Stmt:=Rh (Kx (Xj i)) j
noncomputable def fdN:Stmt->Str | .FunctionDef n _ _ _ _ _ _ _ _ _=>n | _=> ""
noncomputable def fdA:Stmt->Arguments | .FunctionDef _ a _ _ _ _ _ _ _ _=>a | _=>⟨[],[],none,[],[],none,[]⟩
noncomputable def fdB:Stmt->List Stmt | .FunctionDef _ _ b _ _ _ _ _ _ _=>b | _=>[]
noncomputable def fdS:Stmt->Scope | .FunctionDef _ _ _ _ _ _ s _ _ _=>s | _=>default
noncomputable def fdP:Stmt->Pos | .FunctionDef _ _ _ _ _ _ _ _ _ p=>p | _=>⟨0,0,0,0⟩
noncomputable def fnd(st:Stmt)(qual:String)(doc mod code:Value):FuncData:=⟨fdN st,Str.ofString qual,fdA st,.stmts (fdB st),fdS st,3,[],.none,.none,doc,mod,none,code,.none,0⟩
noncomputable def fo(st:Stmt)(qual:String)(doc mod code:Value):Obj:=⟨.type "function",none,.func (fnd st qual doc mod code),#[]⟩
noncomputable def de(P:Params)(x:String)(k:Tok)(v:Value):DictEntry:=⟨PyData.keyHash P (Str.ofString x),.str (Str.ofString x) k,v⟩
noncomputable def co(nm q:String)(t line nargs a:Nat)(v13 v14 v15:Value)(t16:Nat):Obj:=⟨.type "code",none,.fields #[.str (Str.ofString nm) t,.str (Str.ofString q) (t + 1),.str (Str.ofString "/claim/cut.py") (t + 2),.int line 0,.int nargs 0,.int 0 0,.int 0 0,.int 3 0,
 .ref a,.bool true,.int 181 0,.ref (a + 1),.none,v13,v14,v15,.int t16 0,.int line 0,.str (Str.ofString "/claim/cut.py") (t16 + 1)],#[]⟩
noncomputable def k3(P:Params):Obj:=⟨.type ("dict"),.none,.dict (#[de P "__name__" 165 (.str (Str.ofString "law_wz0015_01") 549),de P "__doc__" 166 .none,de P "__package__" 167 .none,de P "__loader__" 168 (.builtin ("__main__.__loader__#opaque")),de P "__spec__" 169 .none,de P "__annotations__" 170 (.ref 6),de P "__builtins__" 171 (.ref 4),de P "__file__" 173 (.str (Str.ofString "/claim/cut.py") 172),de P "__cached__" 174 .none,de P "TupleComp" 230 (.ref 38),de P "add_func_stats" 248 (.ref 49),de P "add_callers" 259 (.ref 56),de P "count_calls" 268 (.ref 63),de P "_netrclex" 328 (.ref 101),de P "ENDMARKER" 332 (.int 0 331),de P "LPAR" 334 (.int 7 333),de P "RPAR" 336 (.int 8 335),de P "LSQB" 338 (.int 9 337),de P "RSQB" 340 (.int 10 339),de P "COLON" 342 (.int 11 341),de P "COMMA" 344 (.int 12 343),de P "SEMI" 346 (.int 13 345),de P "PLUS" 348 (.int 14 347),de P "MINUS" 350 (.int 15 349),de P "STAR" 352 (.int 16 351),de P "SLASH" 354 (.int 17 353),de P "VBAR" 356 (.int 18 355),de P "AMPER" 358 (.int 19 357),de P "LESS" 360 (.int 20 359),de P "GREATER" 362 (.int 21 361),de P "EQUAL" 364 (.int 22 363),de P "DOT" 366 (.int 23 365),de P "PERCENT" 368 (.int 24 367),de P "LBRACE" 370 (.int 25 369),de P "RBRACE" 372 (.int 26 371),de P "EQEQUAL" 374 (.int 27 373),de P "NOTEQUAL" 376 (.int 28 375),de P "LESSEQUAL" 378 (.int 29 377),de P "GREATEREQUAL" 380 (.int 30 379),de P "TILDE" 382 (.int 31 381),de P "CIRCUMFLEX" 384 (.int 32 383),de P "LEFTSHIFT" 386 (.int 33 385),de P "RIGHTSHIFT" 388 (.int 34 387),de P "DOUBLESTAR" 390 (.int 35 389),de P "PLUSEQUAL" 392 (.int 36 391),de P "MINEQUAL" 394 (.int 37 393),de P "STAREQUAL" 396 (.int 38 395),de P "SLASHEQUAL" 398 (.int 39 397),de P "PERCENTEQUAL" 400 (.int 40 399),de P "AMPEREQUAL" 402 (.int 41 401),de P "VBAREQUAL" 404 (.int 42 403),de P "CIRCUMFLEXEQUAL" 406 (.int 43 405),de P "LEFTSHIFTEQUAL" 408 (.int 44 407),de P "RIGHTSHIFTEQUAL" 410 (.int 45 409),de P "DOUBLESTAREQUAL" 412 (.int 46 411),de P "DOUBLESLASH" 414 (.int 47 413),de P "DOUBLESLASHEQUAL" 416 (.int 48 415),de P "AT" 418 (.int 49 417),de P "ATEQUAL" 420 (.int 50 419),de P "RARROW" 422 (.int 51 421),de P "ELLIPSIS" 424 (.int 52 423),de P "COLONEQUAL" 426 (.int 53 425),de P "EXCLAMATION" 428 (.int 54 427),de P "NT_OFFSET" 430 (.int 256 429),de P "EXACT_TOKEN_TYPES" 527 (.ref 106),de P "ISTERMINAL" 534 (.ref 115),de P "ISNONTERMINAL" 541 (.ref 122),de P "ISEOF" 548 (.ref 129),de P "_law_text" 556 (.ref 134),de P "_law_lexer" 565 (.ref 141),de P "_law_places" 578 (.ref 148),de P "_law_kind" 584 (.ref 153),de P "_law_graph" 590 (.ref 158),de P "_law_lift" 602 (.ref 165),de P "_law_run" 608 (.ref 170),de P "_law_beaten" 614 (.ref 175),de P "law" 620 (.ref 180)]) 77,#[]⟩
noncomputable def k27(P:Params):Obj:=co "__init__" "TupleComp.__init__" 201 4 2 22 (.ref 24) (.ref 25) (.ref 26) 206
noncomputable def k28(P:Params):Obj:=fo (Oz 1 0) "TupleComp.__init__" .none (.str (Str.ofString "cpy313.pstats") 187) (.ref 27)
noncomputable def k34(P:Params):Obj:=co "compare" "TupleComp.compare" 209 7 3 29 (.ref 31) (.ref 32) (.ref 33) 219
noncomputable def k35(P:Params):Obj:=fo (Oz 1 1) "TupleComp.compare" .none (.str (Str.ofString "cpy313.pstats") 187) (.ref 34)
noncomputable def k37(P:Params):Obj:=⟨.type ("dict"),.none,.dict (#[de P "__module__" 196 (.str (Str.ofString "cpy313.pstats") 187),de P "__firstlineno__" 200 (.int 2 199),de P "__init__" 208 (.ref 28),de P "compare" 221 (.ref 35),de P "__static_attributes__" 223 (.ref 36),de P "__dict__" 225 (.ref 39),de P "__weakref__" 227 (.ref 40),de P "__doc__" 228 .none]) 4,#[]⟩
noncomputable def k38(P:Params):Obj:=⟨.type ("type"),.none,.cls (.mk (Str.ofString "TupleComp") ([.type ("object")]) ([.ref 38,.type ("object")]) 37 (Str.ofString "TupleComp") true [] [] false .none false),#[.none,.none,.some (.str (Str.ofString "TupleComp") 189),.some (.str (Str.ofString "TupleComp") 197),.some (.builtin ("object.__new__")),.some (.bool true)]⟩
noncomputable def k48(P:Params):Obj:=co "add_func_stats" "add_func_stats" 231 16 2 43 (.ref 45) (.ref 46) (.ref 47) 246
noncomputable def k49(P:Params):Obj:=fo (Xj 2) "add_func_stats" .none (.str (Str.ofString "cpy313.pstats") 187) (.ref 48)
noncomputable def k55(P:Params):Obj:=co "add_callers" "add_callers" 249 20 2 50 (.ref 52) (.ref 53) (.ref 54) 257
noncomputable def k56(P:Params):Obj:=fo (Xj 3) "add_callers" .none (.str (Str.ofString "cpy313.pstats") 187) (.ref 55)
noncomputable def k62(P:Params):Obj:=co "count_calls" "count_calls" 260 33 1 57 (.ref 59) (.ref 60) (.ref 61) 266
noncomputable def k63(P:Params):Obj:=fo (Xj 4) "count_calls" .none (.str (Str.ofString "cpy313.pstats") 187) (.ref 62)
noncomputable def k76(P:Params):Obj:=co "__init__" "_netrclex.__init__" 283 41 2 71 (.ref 73) (.ref 74) (.ref 75) 288
noncomputable def k77(P:Params):Obj:=fo (Oz 6 0) "_netrclex.__init__" .none (.str (Str.ofString "cpy313.netrc") 269) (.ref 76)
noncomputable def k83(P:Params):Obj:=co "_read_char" "_netrclex._read_char" 291 47 1 78 (.ref 80) (.ref 81) (.ref 82) 296
noncomputable def k84(P:Params):Obj:=fo (Oz 6 1) "_netrclex._read_char" .none (.str (Str.ofString "cpy313.netrc") 269) (.ref 83)
noncomputable def k90(P:Params):Obj:=co "get_token" "_netrclex.get_token" 299 53 1 85 (.ref 87) (.ref 88) (.ref 89) 306
noncomputable def k91(P:Params):Obj:=fo (Oz 6 2) "_netrclex.get_token" .none (.str (Str.ofString "cpy313.netrc") 269) (.ref 90)
noncomputable def k97(P:Params):Obj:=co "push_token" "_netrclex.push_token" 309 80 2 92 (.ref 94) (.ref 95) (.ref 96) 314
noncomputable def k98(P:Params):Obj:=fo (Oz 6 3) "_netrclex.push_token" .none (.str (Str.ofString "cpy313.netrc") 269) (.ref 97)
noncomputable def Gl(P:Params):Obj:=⟨.type ("dict"),.none,.dict (#[de P "__module__" 278 (.str (Str.ofString "cpy313.netrc") 269),de P "__firstlineno__" 282 (.int 39 281),de P "__init__" 290 (.ref 77),de P "_read_char" 298 (.ref 84),de P "get_token" 308 (.ref 91),de P "push_token" 316 (.ref 98),de P "__static_attributes__" 321 (.ref 99),de P "__dict__" 323 (.ref 102),de P "__weakref__" 325 (.ref 103),de P "__doc__" 326 .none]) 4,#[]⟩
noncomputable def Gk(P:Params):Obj:=⟨.type ("type"),.none,.cls (.mk (Str.ofString "_netrclex") ([.type ("object")]) ([.ref 101,.type ("object")]) 100 (Str.ofString "_netrclex") true [] [] false .none false),#[.none,.none,.some (.str (Str.ofString "_netrclex") 271),.some (.str (Str.ofString "_netrclex") 279),.some (.builtin ("object.__new__")),.some (.bool true)]⟩
noncomputable def Gj(P:Params):Obj:=⟨.type ("dict"),.none,.dict (#[de P "!" 431 (.int 54 427),de P "!=" 433 (.int 28 375),de P "%" 435 (.int 24 367),de P "%=" 437 (.int 40 399),de P "&" 439 (.int 19 357),de P "&=" 441 (.int 41 401),de P "(" 443 (.int 7 333),de P ")" 445 (.int 8 335),de P "*" 447 (.int 16 351),de P "**" 449 (.int 35 389),de P "**=" 451 (.int 46 411),de P "*=" 453 (.int 38 395),de P "+" 455 (.int 14 347),de P "+=" 457 (.int 36 391),de P "," 459 (.int 12 343),de P "-" 461 (.int 15 349),de P "-=" 463 (.int 37 393),de P "->" 465 (.int 51 421),de P "." 467 (.int 23 365),de P "..." 469 (.int 52 423),de P "/" 471 (.int 17 353),de P "//" 473 (.int 47 413),de P "//=" 475 (.int 48 415),de P "/=" 477 (.int 39 397),de P ":" 479 (.int 11 341),de P ":=" 481 (.int 53 425),de P ";" 483 (.int 13 345),de P "<" 485 (.int 20 359),de P "<<" 487 (.int 33 385),de P "<<=" 489 (.int 44 407),de P "<=" 491 (.int 29 377),de P "=" 493 (.int 22 363),de P "==" 495 (.int 27 373),de P ">" 497 (.int 21 361),de P ">=" 499 (.int 30 379),de P ">>" 500 (.int 34 387),de P ">>=" 501 (.int 45 409),de P "@" 502 (.int 49 417),de P "@=" 503 (.int 50 419),de P "[" 504 (.int 9 337),de P "]" 505 (.int 10 339),de P "^" 506 (.int 32 383),de P "^=" 507 (.int 43 405),de P "{" 508 (.int 25 369),de P "|" 509 (.int 18 355),de P "|=" 510 (.int 42 403),de P "}" 511 (.int 26 371),de P "~" 512 (.int 31 381)]) 48,#[]⟩
noncomputable def Gi(P:Params):Obj:=co "ISTERMINAL" "ISTERMINAL" 528 134 1 109 (.ref 111) (.ref 112) (.ref 113) 532
noncomputable def Gh(P:Params):Obj:=fo (Xj 59) "ISTERMINAL" .none (.str (Str.ofString "cpy313.token") 329) (.ref 114)
noncomputable def Gg(P:Params):Obj:=co "ISNONTERMINAL" "ISNONTERMINAL" 535 136 1 116 (.ref 118) (.ref 119) (.ref 120) 539
noncomputable def Gf(P:Params):Obj:=fo (Xj 60) "ISNONTERMINAL" .none (.str (Str.ofString "cpy313.token") 329) (.ref 121)
noncomputable def Ge(P:Params):Obj:=co "ISEOF" "ISEOF" 542 138 1 123 (.ref 125) (.ref 126) (.ref 127) 546
noncomputable def Gd(P:Params):Obj:=fo (Xj 61) "ISEOF" .none (.str (Str.ofString "cpy313.token") 329) (.ref 128)
noncomputable def Gc(P:Params):Obj:=co "_law_text" "_law_text" 551 141 2 130 .none .none (.ref 132) 554
noncomputable def Gb(P:Params):Obj:=fo (Xj 63) "_law_text" .none (.str (Str.ofString "law_wz0015_01") 549) (.ref 133)
noncomputable def Ga(P:Params):Obj:=co "_law_lexer" "_law_lexer" 557 150 1 135 (.ref 137) (.ref 138) (.ref 139) 563
noncomputable def G9(P:Params):Obj:=fo (Xj 64) "_law_lexer" .none (.str (Str.ofString "law_wz0015_01") 549) (.ref 140)
noncomputable def G8(P:Params):Obj:=co "_law_places" "_law_places" 566 155 1 142 (.ref 144) (.ref 145) (.ref 146) 576
noncomputable def G7(P:Params):Obj:=fo (Xj 65) "_law_places" .none (.str (Str.ofString "law_wz0015_01") 549) (.ref 147)
noncomputable def G6(P:Params):Obj:=co "_law_kind" "_law_kind" 579 162 1 149 .none .none (.ref 151) 582
noncomputable def G5(P:Params):Obj:=fo (Xj 66) "_law_kind" .none (.str (Str.ofString "law_wz0015_01") 549) (.ref 152)
noncomputable def G4(P:Params):Obj:=co "_law_graph" "_law_graph" 585 167 3 154 .none .none (.ref 156) 588
noncomputable def G1(P:Params):Obj:=fo (Xj 67) "_law_graph" .none (.str (Str.ofString "law_wz0015_01") 549) (.ref 157)
noncomputable def G0(P:Params):Obj:=co "_law_lift" "_law_lift" 591 174 3 159 (.ref 161) (.ref 162) (.ref 163) 600
noncomputable def Hz(P:Params):Obj:=fo (Xj 68) "_law_lift" .none (.str (Str.ofString "law_wz0015_01") 549) (.ref 164)
noncomputable def Hy(P:Params):Obj:=co "_law_run" "_law_run" 603 181 8 166 .none .none (.ref 168) 606
noncomputable def Hx(P:Params):Obj:=fo (Xj 69) "_law_run" .none (.str (Str.ofString "law_wz0015_01") 549) (.ref 169)
noncomputable def Hw(P:Params):Obj:=co "_law_beaten" "_law_beaten" 609 219 6 171 .none .none (.ref 173) 612
noncomputable def Hv(P:Params):Obj:=fo (Xj 70) "_law_beaten" .none (.str (Str.ofString "law_wz0015_01") 549) (.ref 174)
noncomputable def K3(P:Params):Frag:=[(3,k3 P),(27,k27 P),(28,k28 P),(34,k34 P),(35,k35 P),(37,k37 P),(38,k38 P),(48,k48 P),(49,k49 P),(55,k55 P),(56,k56 P),(62,k62 P),(63,k63 P),(76,k76 P),(77,k77 P),(83,k83 P),(84,k84 P),(90,k90 P),(91,k91 P),(97,k97 P),(98,k98 P),(100,Gl P),(101,Gk P),(106,Gj P),(114,Gi P),(115,Gh P),(121,Gg P),(122,Gf P),(128,Ge P),(129,Gd P),(133,Gc P),(134,Gb P),(140,Ga P),(141,G9 P),(147,G8 P),(148,G7 P),(152,G6 P),(153,G5 P),(157,G4 P),(158,G1 P),(164,G0 P),(165,Hz P),(169,Hy P),(170,Hx P),(174,Hw P),(175,Hv P)]
noncomputable def as3:List Addr:=[3,27,28,34,35,37,38,48,49,55,56,62,63,76,77,83,84,90,91,97,98,100,101,106,114,115,121,122,128,129,133,134,140,141,147,148,152,153,157,158,164,165,169,170,174,175]
theorem Px:∀ P,as3=(K3 P).map (·.1):=fun _=>rfl
noncomputable def HL:Hook:=kmHook K3 as3 Px [136,51]
noncomputable def qv:Program:={pwL with main:={pwL.main with body:=[Xj 71]}}
noncomputable def S4:List Str:=pwL.boundNames.filter fun n=>!(n == Str.ofString "law")
noncomputable def dL:DefRec:=⟨fdN (Xj 71),fdA (Xj 71),fdB (Xj 71),fdS (Xj 71),fdP (Xj 71)⟩
abbrev LP(w:World):Prop:=(openEnds treeTable pwL w 5170).map (fun s=>(openSeen qv S4 (importedModules pwL.main.body) (fun s=>xlAt qv [] s && recOk rwL.row.records s) true s,HL.obs s))=some (openGood qv S4,HL.val w)
theorem Hs:∀ w:World,LP (w.withFollow "special-get-raises" false):=fun w=>by kernel_rfl
theorem Hq:∀ w:World,LP (w.withFollow "special-get-raises" true):=fun w=>by kernel_rfl
theorem Hr:LeftO pwL qv S4 (fun s=>xlAt qv [] s && recOk rwL.row.records s) HL.obs HL.val 5170:=byRow2 "special-get-raises" (P:=LP) Hs Hq
theorem H6:rwL.wellSaid=true:=by kernel_rfl
theorem Gm(call:WalkO qv S4 (XL qv []) HL.says rwL.row.toRowW dL [] fun f vs=>PySem.call f vs):rwL.Holds:=by
 refine holds_law H6 fun said=>?_;refine holds_open (q:=qv) (loose:=S4) (Xt:=fun s=>xlAt qv [] s && recOk rwL.row.records s) (XP:=XL qv []) (Yf:=HL.obs) (Ya:=HL.val) (YP:=HL.says) (d:=dL) (kwd:=[]) (N:=5170) Hr HL.of HL.keeps (fun s e=>xl_of s (Bool.and_eq_true_iff.mp e).1) XL.keeps (by kernel_rfl) (by kernel_rfl) (by kernel_rfl) (fun s e=>recFacts_of (Bool.and_eq_true_iff.mp e).2) (by kernel_rfl) (by first | assumption | decide +kernel) (by decide +kernel) ⟨rfl,rfl,rfl,rfl,rfl,by decide +kernel⟩ ?hw call
 w_witness2
end Mine
end
section
open PySem PySem.Spec PySem.Calls PyProof.Rows PySem.W PySem.SeqAt
namespace Mine
noncomputable def o3(P:Params):{o:Obj // (K3 P).lookup 3=some o}:=⟨k3 P,by kernel_rfl⟩
noncomputable def es3(P:Params):{e:Array DictEntry × Nat // (o3 P).1.data=.dict e.1 e.2}:=⟨(_,_),rfl⟩
noncomputable def gm(d:V)(v:Value):Bool:=match d with
 | .int i=>(match v with | .int j _=>i == j | _=>false)
 | .ref a=>(match v with | .ref b=>a == b | _=>false)
 | _=>false
theorem Ij{prog:Program}{w:World}{Z:ZM}{d:V}{v:Value}(h:gm d v=true):VRel prog w Z d v:=by
 cases d with
 | int i=>
  cases v with
  | int j t=>rw[eq_of_beq (show(i == j)=true from h)];exact⟨t,rfl⟩
  | _=>exact Bool.noConfusion h
 | ref a=>
  cases v with
  | ref b=>rw[eq_of_beq (show(a == b)=true from h)];exact rfl
  | _=>exact Bool.noConfusion h
 | _=>exact Bool.noConfusion h
noncomputable def GN:List (Str × V):=[("NT_OFFSET",.int 256),("ENDMARKER",.int 0),("TupleComp",.ref 38),("_netrclex",.ref 101),("add_func_stats",.ref 49),
 ("add_callers",.ref 56),("count_calls",.ref 63),("EXACT_TOKEN_TYPES",.ref 106),("ISTERMINAL",.ref 115),("ISNONTERMINAL",.ref 122),("ISEOF",.ref 129),
 ("_law_text",.ref 134),("_law_lexer",.ref 141),("_law_kind",.ref 153),("_law_places",.ref 148),("_law_graph",.ref 158),("_law_lift",.ref 165),("_law_run",.ref 170),("_law_beaten",.ref 175)]
noncomputable def BN:List (Str × Value):=[("len",.builtin "len"),("range",.type "range"),("sum",.builtin "sum"),("sorted",.builtin "sorted"),("list",.type "list"),("tuple",.type "tuple"),("bool",.type "bool"),
 ("isinstance",.builtin "isinstance"),("all",.builtin "all"),("iter",.builtin "iter"),("int",.type "int"),("min",.builtin "min"),("zip",.type "zip")]
theorem Gn(P:Params):(GN.all fun p=>match nsFind (es3 P).1.1 p.1 with | some v=>gm p.2 v | none=>false)=true:=by kernel_rfl
theorem F0(P:Params):(BN.all fun p=>(nsFind (es3 P).1.1 p.1).isNone && (bootBuiltins p.1 == some p.2) && !(p.1 == "__name__"))=true:=by kernel_rfl
structure G3(X:Cx):Prop where
 K0:∀ a o,(K3 X.w.params).lookup a=some o->a ≠ 136->a ≠ 51->X.base.get? a=some o
 lim:X.base.NoLimit
 b:∃ mb,X.base.Ns builtinsNs mb /\ ∀ x:Str,x ≠ "__name__" ->mb x=bootBuiltins x
 g:∃ mg,X.base.Ns mainGlobals mg
theorem G3.K{X:Cx}(G:G3 X)(a:Addr)(o:Obj)(h:(K3 X.w.params).lookup a=some o)(ne:a ≠ 136:=by decide)(ne2:a ≠ 51:=by decide):X.base.get? a=some o:=G.K0 a o h ne ne2
section
variable{X:Cx}{B B':St}{Z Z':ZM}{s s':Shared}{P:V->St->Prop}
theorem G3.find(G:G3 X):∃ mg,X.base.Ns mainGlobals mg /\ ∀ x,nsFind (es3 X.w.params).1.1 x=mg x:=by
 obtain⟨mg,h⟩:=G.g;obtain⟨o,es,ep,ho,hd,hk,hf⟩:=id h
 haveI h3:=G.K _ _ (o3 X.w.params).2
 haveI e:X.base.get? 3=some o:=ho
 rw[e] at h3
 haveI h4:=(es3 X.w.params).2
 haveI h5:o.data=.dict (es3 X.w.params).1.1 (es3 X.w.params).1.2:=(congrArg Obj.data (Option.some.inj h3)).trans h4
 rw[hd] at h5;injection h5 with h6 h7
 exact⟨mg,h,fun x=>by rw[<- h6];exact hf x⟩
set_option tactic.hygienic true in
theorem G3.name(G:G3 X){x pos d}(hx:(x,d) ∈ GN)(h:P d B)(hg:X.env.globals=mainGlobals:=by rfl)(hk:X.env.kindOf x=some .globalImplicit:=by kernel_rfl)(hd:(x == ("__debug__" :Str))=false:=by kernel_rfl):EV X (.Name x pos) B P:=fun Z s r=>by
 obtain⟨mg,hn,hf⟩:=G.find
 haveI ok:=all_eq_true.mp (Gn X.w.params) _ hx
 haveI e:∃ v,mg x=some v /\ gm d v=true:=by
  rw[<- hf x];dsimp only at ok;split at ok
  ·rename_i v hv;exact⟨v,hv,ok⟩
  ·exact ftE ok
 obtain⟨v,hv,hm⟩:=e;refine wpAny_Name ?_ hd;rw[loadName_read r.fr.kind hk]
 haveI hn':=r.baseNs hn
 refine wpAny_bind (wpAny_nsGet (hg ▸ hn') ?_);rw[hv];exact wpAny_pure (Z7 (d:=d) (Ext.refl r) (Ij hm) h)
theorem G3.bname(G:G3 X){x pos v}(hx:(x,v) ∈ BN)(h:P (.lit v) B)(hg:X.env.globals=mainGlobals:=by rfl)(hb:X.env.builtins=builtinsNs:=by rfl)(hk:X.env.kindOf x=some .globalImplicit:=by kernel_rfl)(hd:(x == ("__debug__" :Str))=false:=by kernel_rfl):EV X (.Name x pos) B P:=fun Z s r=>by
 obtain⟨mg,hn,hf⟩:=G.find;obtain⟨mb,hnb,hbb⟩:=G.b
 haveI ok:=all_eq_true.mp (F0 X.w.params) _ hx
 simp only[and_eq_true,Option.isNone_iff_eq_none,beq_iff_eq,Bool.not_eq_true',beq_eq_false_iff_ne] at ok;obtain⟨⟨ok1,ok2⟩,ok3⟩:=ok;refine wpAny_Name ?_ hd;rw[loadName_read r.fr.kind hk]
 haveI hn':=r.baseNs hn
 haveI hnb':=r.baseNs hnb
 refine wpAny_bind (wpAny_nsGet (hg ▸ hn') ?_);rw[<- hf x,ok1];refine wpAny_bind (wpAny_nsGet (hb ▸ hnb') ?_);rw[hbb x ok3,ok2];exact wpAny_pure (Z7 (d:=.lit v) (Ext.refl r) rfl h)
end
theorem mem_hd{α:Type}{a:α}{l:List α}:a ∈ a::l:=mem_cons_self
theorem mem_tl{α:Type}{a b:α}{l:List α}(h:a ∈ l):a ∈ b::l:=mem_cons_of_mem _ h
theorem pq{P:V->St->Prop}{a b:V}{B:St}(e:a=b)(h:P b B):P a B:=e ▸ h
theorem cq{X:Cx}{f:Value}{ds es:List V}{B:St}{P:V->St->Prop}(e:ds=es)(h:CALL X f es B P):CALL X f ds B P:=e ▸ h
section
variable{X:Cx}{x:Str}{pos:Pos}{d:V}{l l' c c':List (Str × Option V)}{p:List (Str × V)}{m:List (Addr × Cell)}{P:V->St->Prop}{Q:St->Prop}
theorem EV.locS(hm:(x,some d) ∈ l)(h:P d ⟨l,c,p,m⟩):EV X (.Name x pos) ⟨l,c,p,m⟩ P:=.loc hm h
theorem EV.celS(hm:(x,some d) ∈ c)(h:P d ⟨l,c,p,m⟩):EV X (.Name x pos) ⟨l,c,p,m⟩ P:=.cel hm h
theorem EV.capS(hm:(x,d) ∈ p)(h:P d ⟨l,c,p,m⟩):EV X (.Name x pos) ⟨l,c,p,m⟩ P:=.cap hm h
theorem AS.locS(hu:Up x d l l')(h:Q ⟨l',c,p,m⟩):AS X (.Name x pos) d ⟨l,c,p,m⟩ Q:=.loc hu h
theorem AS.celS(hu:Up x d c c')(h:Q ⟨l,c',p,m⟩):AS X (.Name x pos) d ⟨l,c,p,m⟩ Q:=.cel hu h
end
noncomputable def ofL(l:List (Option V))(i:Nat):Option V:=l.getD i none
noncomputable def JS(F:Prop)(S:(Nat->Option V)->St)(B:St):Prop:=F /\ ∃ o,B=S o
theorem JS.at{F:Prop}{S:(Nat->Option V)->St}{B:St}(l:List (Option V))(f:F)(e:B=S (ofL l)):JS F S B:=⟨f,_,e⟩
noncomputable abbrev pXk(X:Cx)(body:List Stmt)(I:St->Prop)(Q:Fl->St->Prop)(B:St):Prop:=EXK X body B I Q
theorem FORB.js{X:Cx}{target:PySem.Expr}{body:List Stmt}{Q:Fl->St->Prop}{d:V}{B1:St}(its:List V)(hit:ITER X target B1 d its)(F:Nat->Prop)(S:Nat->(Nat->Option V)->St)(l0:List (Option V))(f0:F 0)(h0:B1=S 0 (ofL l0))
  (turn:∀ i di o,its[i]?=some di->F i->AS X target di (S i o) (pXk X body (JS (F (i + 1)) (S (i + 1))) Q)) (fin:∀ o,F its.length->Q .next (S its.length o)):FORB X target body Q d B1:=
 .mk its hit (fun i=>JS (F i) (S i)) ⟨f0,_,h0⟩ (fun i di B2 h q=>by obtain⟨f,o,rfl⟩:=q;exact turn i di o h f) (fun B2 q=>by obtain⟨f,o,rfl⟩:=q;exact fin o f)
section
variable{α:Type}{a b c d e f g i p:α}{l:List α}
theorem me1:p ∈ a::p::l:=mem_tl mem_hd
theorem me2:p ∈ a::b::p::l:=mem_tl (mem_tl mem_hd)
theorem me3:p ∈ a::b::c::p::l:=mem_tl (mem_tl (mem_tl mem_hd))
theorem me4:p ∈ a::b::c::d::p::l:=mem_tl (mem_tl (mem_tl (mem_tl mem_hd)))
theorem me5:p ∈ a::b::c::d::e::p::l:=mem_tl (mem_tl (mem_tl (mem_tl (mem_tl mem_hd))))
theorem me6:p ∈ a::b::c::d::e::f::p::l:=mem_tl (mem_tl (mem_tl (mem_tl (mem_tl (mem_tl mem_hd)))))
theorem me7:p ∈ a::b::c::d::e::f::g::p::l:=mem_tl (mem_tl (mem_tl (mem_tl (mem_tl (mem_tl (mem_tl mem_hd))))))
theorem me8(h:p ∈ l):p ∈ a::b::c::d::e::f::g::i::l:=mem_tl (mem_tl (mem_tl (mem_tl (mem_tl (mem_tl (mem_tl (mem_tl h)))))))
end
section
variable{x:Str}{v:V}{a b c d e f g i:Str × Option V}{u:Option V}{l l':List (Str × Option V)}
theorem ue1:Up x v (a::(x,u)::l) (a::(x,some v)::l):=.tail .head
theorem ue2:Up x v (a::b::(x,u)::l) (a::b::(x,some v)::l):=.tail (.tail .head)
theorem ue3:Up x v (a::b::c::(x,u)::l) (a::b::c::(x,some v)::l):=.tail (.tail (.tail .head))
theorem ue4:Up x v (a::b::c::d::(x,u)::l) (a::b::c::d::(x,some v)::l):=.tail (.tail (.tail (.tail .head)))
theorem ue5:Up x v (a::b::c::d::e::(x,u)::l) (a::b::c::d::e::(x,some v)::l):=.tail (.tail (.tail (.tail (.tail .head))))
theorem ue6:Up x v (a::b::c::d::e::f::(x,u)::l) (a::b::c::d::e::f::(x,some v)::l):=.tail (.tail (.tail (.tail (.tail (.tail .head)))))
theorem ue7:Up x v (a::b::c::d::e::f::g::(x,u)::l) (a::b::c::d::e::f::g::(x,some v)::l):=.tail (.tail (.tail (.tail (.tail (.tail (.tail .head))))))
theorem ue8(h:Up x v l l'):Up x v (a::b::c::d::e::f::g::i::l) (a::b::c::d::e::f::g::i::l'):=.tail (.tail (.tail (.tail (.tail (.tail (.tail (.tail h)))))))
end
theorem Y6{o:Obj}{n:String}(h:o.cls=.type n):o.cls ≠ .none:=by rw[h];intro h;exact(nomatch h)
theorem G3.callee{X:Cx}(G:G3 X){fd L a}:G3 (X.callee fd L a):=⟨G.K0,G.lim,G.b,G.g⟩
theorem G3.comp{X:Cx}(G:G3 X){sc C}:G3 (X.comp sc C):=⟨G.K0,G.lim,G.b,G.g⟩
noncomputable def o77(P:Params):{o:Obj // (K3 P).lookup 77=some o}:=⟨k77 P,by kernel_rfl⟩
noncomputable def o76(P:Params):{o:Obj // (K3 P).lookup 76=some o}:=⟨k76 P,by kernel_rfl⟩
noncomputable def f77(P:Params):{fd:FuncData // (o77 P).1.data=.func fd}:=⟨_,rfl⟩
noncomputable def b77(P:Params):{b:List Stmt // (f77 P).1.body=.stmts b}:=⟨_,rfl⟩
noncomputable def o84(P:Params):{o:Obj // (K3 P).lookup 84=some o}:=⟨k84 P,by kernel_rfl⟩
noncomputable def o83(P:Params):{o:Obj // (K3 P).lookup 83=some o}:=⟨k83 P,by kernel_rfl⟩
noncomputable def f84(P:Params):{fd:FuncData // (o84 P).1.data=.func fd}:=⟨_,rfl⟩
noncomputable def b84(P:Params):{b:List Stmt // (f84 P).1.body=.stmts b}:=⟨_,rfl⟩
noncomputable def o91(P:Params):{o:Obj // (K3 P).lookup 91=some o}:=⟨k91 P,by kernel_rfl⟩
noncomputable def o90(P:Params):{o:Obj // (K3 P).lookup 90=some o}:=⟨k90 P,by kernel_rfl⟩
noncomputable def f91(P:Params):{fd:FuncData // (o91 P).1.data=.func fd}:=⟨_,rfl⟩
noncomputable def b91(P:Params):{b:List Stmt // (f91 P).1.body=.stmts b}:=⟨_,rfl⟩
noncomputable def o98(P:Params):{o:Obj // (K3 P).lookup 98=some o}:=⟨k98 P,by kernel_rfl⟩
noncomputable def o97(P:Params):{o:Obj // (K3 P).lookup 97=some o}:=⟨k97 P,by kernel_rfl⟩
noncomputable def f98(P:Params):{fd:FuncData // (o98 P).1.data=.func fd}:=⟨_,rfl⟩
noncomputable def b98(P:Params):{b:List Stmt // (f98 P).1.body=.stmts b}:=⟨_,rfl⟩
noncomputable def o28(P:Params):{o:Obj // (K3 P).lookup 28=some o}:=⟨k28 P,by kernel_rfl⟩
noncomputable def o27(P:Params):{o:Obj // (K3 P).lookup 27=some o}:=⟨k27 P,by kernel_rfl⟩
noncomputable def f28(P:Params):{fd:FuncData // (o28 P).1.data=.func fd}:=⟨_,rfl⟩
noncomputable def b28(P:Params):{b:List Stmt // (f28 P).1.body=.stmts b}:=⟨_,rfl⟩
noncomputable def o35(P:Params):{o:Obj // (K3 P).lookup 35=some o}:=⟨k35 P,by kernel_rfl⟩
noncomputable def o34(P:Params):{o:Obj // (K3 P).lookup 34=some o}:=⟨k34 P,by kernel_rfl⟩
noncomputable def f35(P:Params):{fd:FuncData // (o35 P).1.data=.func fd}:=⟨_,rfl⟩
noncomputable def b35(P:Params):{b:List Stmt // (f35 P).1.body=.stmts b}:=⟨_,rfl⟩
noncomputable def o49(P:Params):{o:Obj // (K3 P).lookup 49=some o}:=⟨k49 P,by kernel_rfl⟩
noncomputable def o48(P:Params):{o:Obj // (K3 P).lookup 48=some o}:=⟨k48 P,by kernel_rfl⟩
noncomputable def f49(P:Params):{fd:FuncData // (o49 P).1.data=.func fd}:=⟨_,rfl⟩
noncomputable def b49(P:Params):{b:List Stmt // (f49 P).1.body=.stmts b}:=⟨_,rfl⟩
noncomputable def o56(P:Params):{o:Obj // (K3 P).lookup 56=some o}:=⟨k56 P,by kernel_rfl⟩
noncomputable def o55(P:Params):{o:Obj // (K3 P).lookup 55=some o}:=⟨k55 P,by kernel_rfl⟩
noncomputable def f56(P:Params):{fd:FuncData // (o56 P).1.data=.func fd}:=⟨_,rfl⟩
noncomputable def b56(P:Params):{b:List Stmt // (f56 P).1.body=.stmts b}:=⟨_,rfl⟩
noncomputable def o63(P:Params):{o:Obj // (K3 P).lookup 63=some o}:=⟨k63 P,by kernel_rfl⟩
noncomputable def o62(P:Params):{o:Obj // (K3 P).lookup 62=some o}:=⟨k62 P,by kernel_rfl⟩
noncomputable def f63(P:Params):{fd:FuncData // (o63 P).1.data=.func fd}:=⟨_,rfl⟩
noncomputable def b63(P:Params):{b:List Stmt // (f63 P).1.body=.stmts b}:=⟨_,rfl⟩
noncomputable def I4(P:Params):{o:Obj // (K3 P).lookup 115=some o}:=⟨Gh P,by kernel_rfl⟩
noncomputable def o114(P:Params):{o:Obj // (K3 P).lookup 114=some o}:=⟨Gi P,by kernel_rfl⟩
noncomputable def Ir(P:Params):{fd:FuncData // (I4 P).1.data=.func fd}:=⟨_,rfl⟩
noncomputable def b115(P:Params):{b:List Stmt // (Ir P).1.body=.stmts b}:=⟨_,rfl⟩
noncomputable def I3(P:Params):{o:Obj // (K3 P).lookup 122=some o}:=⟨Gf P,by kernel_rfl⟩
noncomputable def o121(P:Params):{o:Obj // (K3 P).lookup 121=some o}:=⟨Gg P,by kernel_rfl⟩
noncomputable def Iq(P:Params):{fd:FuncData // (I3 P).1.data=.func fd}:=⟨_,rfl⟩
noncomputable def b122(P:Params):{b:List Stmt // (Iq P).1.body=.stmts b}:=⟨_,rfl⟩
noncomputable def Md(P:Params):{o:Obj // (K3 P).lookup 129=some o}:=⟨Gd P,by kernel_rfl⟩
noncomputable def o128(P:Params):{o:Obj // (K3 P).lookup 128=some o}:=⟨Ge P,by kernel_rfl⟩
noncomputable def Mz(P:Params):{fd:FuncData // (Md P).1.data=.func fd}:=⟨_,rfl⟩
noncomputable def b129(P:Params):{b:List Stmt // (Mz P).1.body=.stmts b}:=⟨_,rfl⟩
noncomputable def I2(P:Params):{o:Obj // (K3 P).lookup 134=some o}:=⟨Gb P,by kernel_rfl⟩
noncomputable def o133(P:Params):{o:Obj // (K3 P).lookup 133=some o}:=⟨Gc P,by kernel_rfl⟩
noncomputable def Kn(P:Params):{fd:FuncData // (I2 P).1.data=.func fd}:=⟨_,rfl⟩
noncomputable def F3(P:Params):{b:List Stmt // (Kn P).1.body=.stmts b}:=⟨_,rfl⟩
noncomputable def I1(P:Params):{o:Obj // (K3 P).lookup 141=some o}:=⟨G9 P,by kernel_rfl⟩
noncomputable def o140(P:Params):{o:Obj // (K3 P).lookup 140=some o}:=⟨Ga P,by kernel_rfl⟩
noncomputable def Rt(P:Params):{fd:FuncData // (I1 P).1.data=.func fd}:=⟨_,rfl⟩
noncomputable def F2(P:Params):{b:List Stmt // (Rt P).1.body=.stmts b}:=⟨_,rfl⟩
noncomputable def I0(P:Params):{o:Obj // (K3 P).lookup 148=some o}:=⟨G7 P,by kernel_rfl⟩
noncomputable def o147(P:Params):{o:Obj // (K3 P).lookup 147=some o}:=⟨G8 P,by kernel_rfl⟩
noncomputable def Ip(P:Params):{fd:FuncData // (I0 P).1.data=.func fd}:=⟨_,rfl⟩
noncomputable def b148(P:Params):{b:List Stmt // (Ip P).1.body=.stmts b}:=⟨_,rfl⟩
noncomputable def Jz(P:Params):{o:Obj // (K3 P).lookup 158=some o}:=⟨G1 P,by kernel_rfl⟩
noncomputable def o157(P:Params):{o:Obj // (K3 P).lookup 157=some o}:=⟨G4 P,by kernel_rfl⟩
noncomputable def Kl(P:Params):{fd:FuncData // (Jz P).1.data=.func fd}:=⟨_,rfl⟩
noncomputable def b158(P:Params):{b:List Stmt // (Kl P).1.body=.stmts b}:=⟨_,rfl⟩
noncomputable def Jy(P:Params):{o:Obj // (K3 P).lookup 165=some o}:=⟨Hz P,by kernel_rfl⟩
noncomputable def o164(P:Params):{o:Obj // (K3 P).lookup 164=some o}:=⟨G0 P,by kernel_rfl⟩
noncomputable def Io(P:Params):{fd:FuncData // (Jy P).1.data=.func fd}:=⟨_,rfl⟩
noncomputable def b165(P:Params):{b:List Stmt // (Io P).1.body=.stmts b}:=⟨_,rfl⟩
noncomputable def Jx(P:Params):{o:Obj // (K3 P).lookup 170=some o}:=⟨Hx P,by kernel_rfl⟩
noncomputable def o169(P:Params):{o:Obj // (K3 P).lookup 169=some o}:=⟨Hy P,by kernel_rfl⟩
noncomputable def Xu(P:Params):{fd:FuncData // (Jx P).1.data=.func fd}:=⟨_,rfl⟩
noncomputable def F1(P:Params):{b:List Stmt // (Xu P).1.body=.stmts b}:=⟨_,rfl⟩
noncomputable def Jw(P:Params):{o:Obj // (K3 P).lookup 175=some o}:=⟨Hv P,by kernel_rfl⟩
noncomputable def o174(P:Params):{o:Obj // (K3 P).lookup 174=some o}:=⟨Hw P,by kernel_rfl⟩
noncomputable def Im(P:Params):{fd:FuncData // (Jw P).1.data=.func fd}:=⟨_,rfl⟩
noncomputable def b175(P:Params):{b:List Stmt // (Im P).1.body=.stmts b}:=⟨_,rfl⟩
noncomputable def Ly(P:Params):{o:Obj // (K3 P).lookup 153=some o}:=⟨G5 P,by kernel_rfl⟩
noncomputable def o152(P:Params):{o:Obj // (K3 P).lookup 152=some o}:=⟨G6 P,by kernel_rfl⟩
noncomputable def Km(P:Params):{fd:FuncData // (Ly P).1.data=.func fd}:=⟨_,rfl⟩
noncomputable def b153(P:Params):{b:List Stmt // (Km P).1.body=.stmts b}:=⟨_,rfl⟩
section
variable{X:Cx}{B B':St}{Z Z':ZM}{s s':Shared}{P:V->St->Prop}
theorem EV.callG(G:G3 X){x p1 args pos}(a:Addr)(hx:(x,V.ref a) ∈ GN)(o:{o:Obj // (K3 X.w.params).lookup a=some o})(f:{fd:FuncData // o.1.data=.func fd})(h:EVs X pos args B (pCa X (.ref a) P))(hcl:o.1.cls=.type "function" :=by kernel_rfl)(ne:a ≠ 136 /\ a ≠ 51:=by decide)
  (hg:X.env.globals=mainGlobals:=by rfl) (hk:X.env.kindOf x=some .globalImplicit:=by kernel_rfl) (hd:(x == ("__debug__" :Str))=false:=by kernel_rfl)
  (hp:∀ env,(starEach args env).any (·.1)=false:=by intro _;rfl)
  (he:∀ env,eval (.Call (.Name x p1) args [] pos) env=(do callWith pos (<- eval (.Name x p1) env) [] (backTo pos (starEach args env)) (backToKw pos (keywordEach [] env))):=by intro _;rfl):EV X (.Call (.Name x p1) args [] pos) B P:=
 EV.call (G.name hx ⟨.ref a,fun _ _ h=>h,J.mono h fun ds B2 hc=>⟨Keep.func (G.K _ _ o.2 ne.1 ne.2) f.2 (Y6 hcl),hc⟩⟩ hg hk hd) hp he
theorem EV.callB(G:G3 X){x p1 args pos}(id:String)(hx:(x,Value.builtin id) ∈ BN)(h:EVs X pos args B (pCa X (.builtin id) P))
  (hg:X.env.globals=mainGlobals:=by rfl) (hb:X.env.builtins=builtinsNs:=by rfl) (hk:X.env.kindOf x=some .globalImplicit:=by kernel_rfl) (hd:(x == ("__debug__" :Str))=false:=by kernel_rfl)
  (hp:∀ env,(starEach args env).any (·.1)=false:=by intro _;rfl)
  (he:∀ env,eval (.Call (.Name x p1) args [] pos) env=(do callWith pos (<- eval (.Name x p1) env) [] (backTo pos (starEach args env)) (backToKw pos (keywordEach [] env))):=by intro _;rfl):EV X (.Call (.Name x p1) args [] pos) B P:=
 EV.call (G.bname hx ⟨.builtin id,fun _ _ h=>h,J.mono h fun ds B2 hc=>⟨Keep.builtin,hc⟩⟩ hg hb hk hd) hp he
theorem EV.callT(G:G3 X){x p1 args pos}(T:String)(hx:(x,Value.type T) ∈ BN)(h:EVs X pos args B (pCa X (.type T) P))
  (hg:X.env.globals=mainGlobals:=by rfl) (hb:X.env.builtins=builtinsNs:=by rfl) (hk:X.env.kindOf x=some .globalImplicit:=by kernel_rfl) (hd:(x == ("__debug__" :Str))=false:=by kernel_rfl)
  (hp:∀ env,(starEach args env).any (·.1)=false:=by intro _;rfl)
  (he:∀ env,eval (.Call (.Name x p1) args [] pos) env=(do callWith pos (<- eval (.Name x p1) env) [] (backTo pos (starEach args env)) (backToKw pos (keywordEach [] env))):=by intro _;rfl):EV X (.Call (.Name x p1) args [] pos) B P:=
 EV.call (G.bname hx ⟨.type T,fun _ _ h=>h,J.mono h fun ds B2 hc=>⟨Keep.type,hc⟩⟩ hg hb hk hd) hp he
end
theorem CALLR.defG{X:Cx}{B:St}{P:V->St->Prop}{k:Nat}{a c:Addr}{ps:List Str}{ds:List V}{loc cel:List (Str × Option V)}{sub rest:List (Addr × Cell)}(G:G3 X)(hA:Rm X.A (k + 1))(o:{o:Obj // (K3 X.w.params).lookup a=some o})(oc:{o:Obj // (K3 X.w.params).lookup c=some o})(f:{fd:FuncData // o.1.data=.func fd})(b:{b:List Stmt // f.1.body=.stmts b})
  (hbind:∀ vs:List Value,vs.length=ds.length->bindArgs f.1 ⟨vs,[]⟩=pure (ps.zip vs)) (hlen:ps.length=ds.length) (hl:Xy ps ds loc) (hcl:Xy ps ds cel) (hmem:B.mem=sub++rest)
  (h:∀ L,Rm (X.callee f.1 L a).A k->(X.callee f.1 L a).A.handled=none->G3 (X.callee f.1 L a)->EX (X.callee f.1 L a) b.1 ⟨loc,cel,[],sub⟩ fun f B'=>P (N3 f) {B with mem:=B'.mem++rest})
  (hcls:o.1.cls=.type "function" :=by kernel_rfl) (hclo:f.1.closure=[]:=by kernel_rfl) (hcd:f.1.code=.ref c:=by rfl) (hws:∃ ws t,oc.1.data=.fields ws /\ ws[1]?=some (.str f.1.qualname t):=by exact⟨_,_,rfl,rfl⟩) (hok:W1 f.1.scope.names ps (loc.map (·.1)) (cel.map (·.1))=true:=by kernel_rfl) (ne:a ≠ 136 /\ a ≠ 51 /\ c ≠ 136 /\ c ≠ 51:=by decide)
  (hco:f.1.scope.isCoroutine=false /\ f.1.scope.isGenerator=false /\ f.1.scope.kind=.function:=by exact⟨by kernel_rfl,by kernel_rfl,by kernel_rfl⟩):CALLR X (.ref a) ds B P:=by
 obtain⟨ws,t,h1,h2⟩:=hws;exact CALLR.def hA G.lim (G.K _ _ o.2 ne.1 ne.2.1) (Y6 hcls) f.2 b.2 hclo ⟨c,_,ws,t,hcd,G.K _ _ oc.2 ne.2.2.1 ne.2.2.2,h1,h2⟩ hbind hlen hok hl hcl hmem (fun L=>h L hA.deeper hA.deeper.handled G.callee) hco.1 hco.2.1 hco.2.2
theorem EV.rangeC{X:Cx}{B:St}{P:V->St->Prop}(G:G3 X){p1 args pos}(h:EVs X pos args B (pCa X (.type "range") P))
  (hg:X.env.globals=mainGlobals:=by rfl) (hb:X.env.builtins=builtinsNs:=by rfl) (hk:X.env.kindOf "range" =some .globalImplicit:=by kernel_rfl) (hp:∀ env,(starEach args env).any (·.1)=false:=by intro _;rfl)
  (he:∀ env,eval (.Call (.Name "range" p1) args [] pos) env=(do callWith pos (<- eval (.Name "range" p1) env) [] (backTo pos (starEach args env)) (backToKw pos (keywordEach [] env))):=by intro _;rfl):EV X (.Call (.Name "range" p1) args [] pos) B P:=
 EV.callT G "range" (by unfold BN;simp) h hg hb hk (by kernel_rfl) hp he
theorem EV.lenC{X:Cx}{B:St}{P:V->St->Prop}(G:G3 X){p1 args pos}(h:EVs X pos args B (pCa X (.builtin "len") P))
  (hg:X.env.globals=mainGlobals:=by rfl) (hb:X.env.builtins=builtinsNs:=by rfl) (hk:X.env.kindOf "len" =some .globalImplicit:=by kernel_rfl) (hp:∀ env,(starEach args env).any (·.1)=false:=by intro _;rfl)
  (he:∀ env,eval (.Call (.Name "len" p1) args [] pos) env=(do callWith pos (<- eval (.Name "len" p1) env) [] (backTo pos (starEach args env)) (backToKw pos (keywordEach [] env))):=by intro _;rfl):EV X (.Call (.Name "len" p1) args [] pos) B P:=
 EV.callB G "len" (by unfold BN;simp) h hg hb hk (by kernel_rfl) hp he
theorem M9{n i j:Nat}(h:(List.range n)[i]?=some j):j=i /\ i < n:=by
 obtain⟨h1,h2⟩:=List.getElem?_eq_some_iff.mp h;rw[length_range] at h1;rw[List.getElem_range] at h2;exact⟨h2.symm,h1⟩
theorem Kg{i c m:Nat}{n:Int}(h:i ≤ c)(hc:c ≤ m)(hd:(m:Int) < n):(i:Int) < n:=Int.lt_of_le_of_lt (ofNat_le.mpr (le_trans h hc)) hd
theorem Ii{i c:Nat}(h:i ≤ c)(hc:c ≤ 2 ^ 40:=by decide): -2 ^ 63 ≤ (i:Int) /\ (i:Int) < 2 ^ 63:=by exact⟨Int.le_trans (by decide) (natCast_nonneg _),Kg h hc (by decide)⟩
theorem Wf{a b:Nat}(h:a ≤ b)(hb:b ≤ 2 ^ 24:=by decide):a ≤ sizeLine:=le_trans h hb
theorem FORB.jl{X:Cx}{target:PySem.Expr}{body:List Stmt}{Q:Fl->St->Prop}{d:V}{B1:St}{α:Type}{xs:List α}{enc:α->V}{its:List V}(hit:ITER X target B1 d its)(e:its=xs.map enc)(F:Nat->Prop)(S:Nat->(Nat->Option V)->St)(l0:List (Option V))(f0:F 0)(h0:B1=S 0 (ofL l0))
  (turn:∀ i x o,xs[i]?=some x->F i->AS X target (enc x) (S i o) (pXk X body (JS (F (i + 1)) (S (i + 1))) Q)) (fin:∀ o,F xs.length->Q .next (S xs.length o)):FORB X target body Q d B1:=
 .js _ hit F S l0 f0 h0 (fun i di o hi f=>by
  rw[e,getElem?_map,Option.map_eq_some_iff] at hi;obtain⟨x,hx,rfl⟩:=hi
  exact turn i x o hx f) fun o f=>by rw[e,length_map] at f ⊢;exact fin o f
theorem FORB.jr{X:Cx}{target:PySem.Expr}{body:List Stmt}{Q:Fl->St->Prop}{B1:St}{n:Nat}(hh:X.A.handled=none)(hn:n ≤ 2 ^ 40)(F:Nat->Prop)(S:Nat->(Nat->Option V)->St)(l0:List (Option V))(f0:F 0)(h0:B1=S 0 (ofL l0))
  (turn:∀ i o,i < n->F i->AS X target (nat i) (S i o) (pXk X body (JS (F (i + 1)) (S (i + 1))) Q)) (fin:∀ o,F n->Q .next (S n o)):FORB X target body Q (.rng 0 n) B1:=
 .js _ (ITER.rngN hh hn) F S l0 f0 h0 (fun i di o hi f=>by
  rw[getElem?_map,Option.map_eq_some_iff] at hi;obtain⟨j,hj,rfl⟩:=hi;obtain⟨rfl,hl⟩:=M9 hj
  exact turn _ o hl f) fun o f=>by rw[length_map,length_range] at f ⊢;exact fin o f
local macro_rules | `(tactic| walk_at"vside")=>`(tactic| first | rfl | kernel_rfl)
local macro_rules | `(tactic| walk_at"vis")=>`(tactic| (intro _;walk_at"vside"))
local macro_rules | `(tactic| walk_at"vga")=>`(tactic| with_reducible assumption)
local macro_rules | `(tactic| walk_at"vgn")=>`(tactic| (unfold GN;walk_at"vmem"))
local macro_rules | `(tactic| walk_at"vbn")=>`(tactic| (unfold BN;walk_at"vmem"))
local macro_rules | `(tactic| walk_at"vi")=>`(tactic| (intro _ _;try walk_at"v"))
local macro_rules | `(tactic| walk_at"vt")=>`(tactic| try walk_at"v")
local macro_rules | `(tactic| walk_at"vs")=>`(tactic| repeat walk_at"v")
local macro_rules | `(tactic| walk_at"vss")=>`(tactic| repeat walk_at"@v @vl")
local macro_rules | `(tactic| walk_at"vback")=>`(tactic| exact⟨by walk_at"vwk",by walk_at"vwk",rfl,rfl⟩)
local macro_rules | `(tactic| walk_at $s:str)=>do
 let k:=s.getString
 let t:=match ("\nvmem ?mem_hd/- &mem_tl;vmem &mem_right;vmem &mem_left;vmem\nvup ?Up.head/- &Up.tail;vup\nvupm ?UpM.head/- &UpM.tail;vupm &UpM.right;vupm &UpM.left;vupm\nvlm ?mem_hd/- ?me1/- ?me2/- ?me3/- ?me4/- ?me5/- ?me6/- ?me7/- &me8;vlm\nvml @D @vlm\nvlu ?Up.head/- ?ue1/- ?ue2/- ?ue3/- ?ue4/- ?ue5/- ?ue6/- ?ue7/- &ue8;vlu\nvul @D @vlu\nvm @D @vmem\nvu @D @vup\nvum @D @vupm\nvg @vga .G3.comp/vga .G3.comp/vgb\nvgb .G3.comp/vga\nvEV ?EV.int ?EV.bin ?EV.sub ?EV.str ?EV.bool ?EV.none ?EV.una ?EV.ife ?EV.tup ?EV.slice ?EV.and ?EV.or !EV4@PySem.Expr.Name2;vN !EV4@PySem.Expr.Compare4;vC\nvC .EV.cmp\nvN .EV.locS/vlm/? .EV.celS/vlm/? .EV.capS/vlm/? .G3.name/vg/vgn/? .G3.bname/vg/vbn/?\nvES ?ES.ret ?ES.ite ?ES.augN ?ES.cont ?ES.brk !ES4@Stmt.Assign3;vE1 !ES4@Stmt.AugAssign4;vE2 !ES4@Stmt.Expr2;vE3\nvE1 .ES.asgN/?/vside/vside/vside\nvE2 .ES.augSub\nvE3 .ES.expr/?/vside/vside\nvAS !AS5@PySem.Expr.Name2;vA1 !AS5@PySem.Expr.Tuple3;vA2\nvA1 .AS.locS/vlu/? .AS.celS/vlu/?\nvA2 .AS.tup/vga/?/vside/vis/vis\nvET ?ET.not ?ET.bool !ET4@PySem.Expr.Compare4;vE4 .ET.val\nvE4 .ET.cmp\nvEX ?EX.nil .EX.consK\nvEVs ?EVs.nil .EVs.cons\nvEVO ?EVO.some ?EVO.none\nvSN .SN.loc/vul/? .SN.cel/vul/?\nvLN .LN.loc/vml/? .LN.cel/vml/?\nvASs ?ASs.cons ?ASs.nil\nvAT ?AT.andCons ?AT.andNil ?AT.orCons ?AT.orNil\nvTS ?TS.nil ?TS.one\nvCMP ?CMP.eqi ?CMP.nei ?CMP.lti ?CMP.lei ?CMP.gti ?CMP.gei ?CMP.eqs ?CMP.nes\nv @D !EV4;vEV !EX4;vEX !ES4;vES !EVs5;vEVs !EVO4;vEVO !AS5;vAS !SN5;vSN !LN4;vLN !ET4;vET !ASs5;vASs !AT5;vAT !TS4;vTS !CMP6;vCMP ?BIN.add ?BIN.sub ?INP.add ?UNA.neg ?TRU.bool !EXK5;vi ?KT.next;vt ?KT.ret ?KontL.next/vga/? ?KontL.cont/vga/? ?KontL.ret/vga/? ?KontL.brk/vga/? ?KT.cont ?KT.brk\nvl .lenOk/vside/?\nvag .ES.asg/?/vside/vside/vside\nvsc .ScL.nil/- ^ScL.loc;vsc ^ScL.cell;vsc ^ScL.glob;vsc ^ScL.cap/vm;vsc ^ScL.cel/vm;vsc\nvwk @D .Wk.nil/- ^Wk.same;vwk ^Wk.forget;vwk".splitOn s!"\n{k} ") with
  | [_,t]=>t
  | _=>k
 if t == k && k.front.isAlpha then Lean.Macro.throwUnsupported
 let l:=((t.splitOn "\n").head!).splitOn " "
 let d:=l.head! == "@D"
 let a <- (if d then l.tail! else l).toArray.mapM fun(x:String)=>do
  let xs:=(x.drop 1).toString.splitOn ";"
  let ws:=xs.head!.splitOn "/"
  let c:=x.front
  let p:=c == '&' || c == '^'
  let h <- `(_)
  let hs (y:String):=Array.replicate (y.back.toNat - 48) h
  let ap (y:String) g:=Lean.Syntax.mkApp (Lean.mkIdent y.toName) g
  let u <- if c == '@' then `(tactic| walk_at $(Lean.Syntax.mkStrLit ws.head!)) else if c == '!' then do
    let vs:=ws.head!.splitOn "@"
    let y:=vs.head!
    let z:=vs.getLast!
    let g:=if vs.length < 2 then hs y else (hs y).set! 1 (ap (z.dropEnd 1).toString (hs z))
    `(tactic| with_reducible refine(?_:$(ap (y.dropEnd 1).toString g)))
   else do
    let g <- if ws.length < 2 then (if p then pure [] else do pure [<- `(?_)]) else (ws.tail!.filter (· != "-")).mapM fun y=>if y == "?" then `(?_) else `(by walk_at $(Lean.Syntax.mkStrLit y))
    let u:=ap ws.head! g.toArray
    let u <- if p then `(tactic| apply $u) else `(tactic| refine $u)
    if c == '.' || c == '^' then pure u else `(tactic| with_reducible $u:tactic)
  if xs.length < 2 then pure u else `(tactic| ($u:tactic;walk_at $(Lean.Syntax.mkStrLit xs.getLast!)))
 if d then `(tactic| ((try dsimp only);first $[| $a:tactic]*)) else `(tactic| first $[| $a:tactic]*)
section
section
variable{X:Cx}{B:St}{k:Nat}{P:V->St->Prop}
theorem sp_63(G:G3 X)(hA:Rm X.A (k + 1)){ks:List Str}{l:List Int}(h:P (.int l.sum) B):CALL X (.ref 63) [.sdict ks (l.map V.int)] B P:=by
 refine CALLR.call (CALLR.defG (ps:=["callers"]) (loc:=[("callers",some ((.sdict ks (l.map V.int)))),("nc",none),("calls",none)]) (cel:=[]) (sub:=[]) (rest:=B.mem) G hA (o63 _) (o62 _) (f63 _) (b63 _) ?_ rfl ⟨rfl,trivial⟩ trivial rfl ?_)
 ·refine lenC fun _=>Xb ?_;kernel_rfl
 intro L hR hh G'
 iterate 5 walk_at"v"
 refine ES.for hh ?_;refine EV.meth "dict" "dict.values" F.plainAttrs_dict F.slot_dict_values F.type_dict_values ?_;walk_at"v";refine⟨TypeV.sdict,?_⟩;walk_at"v";refine CALL.svalues ?_;refine⟨_,ITER.svals hh,fun i B2=>∃ u,B2=⟨[("callers",some (.sdict ks (l.map V.int))),("nc",some (.int (l.take i).sum)),("calls",u)],[],[],[]⟩,⟨_,rfl⟩,?_,?_⟩
 ·rintro i di B2 hi ⟨u,rfl⟩;rw[getElem?_map,Option.map_eq_some_iff] at hi;obtain⟨x,hx,rfl⟩:=hi;walk_at"vs";exact⟨some (.int x),by rw[Za hx,sum_append,sum_cons,List.sum_nil,add_zero]⟩
 ·rintro B2 ⟨u,rfl⟩;walk_at"vs";simp only[length_map,take_length];exact h
theorem sp_115(G:G3 X)(hA:Rm X.A (k + 1)){i:Int}(h:P (.bool (decide (i < 256))) B):CALL X (.ref 115) [.int i] B P:=by
 refine CALLR.call (CALLR.defG (ps:=["x"]) (loc:=[("x",some (.int i))]) (cel:=[]) (sub:=[]) (rest:=B.mem) G hA (I4 _) (o114 _) (Ir _) (b115 _) ?_ rfl ⟨rfl,trivial⟩ trivial rfl ?_)
 ·refine lenC fun _=>Xb ?_;kernel_rfl
 intro L hR hh G';walk_at"vs";exact h
theorem sp_122(G:G3 X)(hA:Rm X.A (k + 1)){i:Int}(h:P (.bool (decide (256 ≤ i))) B):CALL X (.ref 122) [.int i] B P:=by
 refine CALLR.call (CALLR.defG (ps:=["x"]) (loc:=[("x",some (.int i))]) (cel:=[]) (sub:=[]) (rest:=B.mem) G hA (I3 _) (o121 _) (Iq _) (b122 _) ?_ rfl ⟨rfl,trivial⟩ trivial rfl ?_)
 ·refine lenC fun _=>Xb ?_;kernel_rfl
 intro L hR hh G';walk_at"vs";exact h
theorem sp_129(G:G3 X)(hA:Rm X.A (k + 1)){i:Int}(h:P (.bool (i == 0)) B):CALL X (.ref 129) [.int i] B P:=by
 refine CALLR.call (CALLR.defG (ps:=["x"]) (loc:=[("x",some (.int i))]) (cel:=[]) (sub:=[]) (rest:=B.mem) G hA (Md _) (o128 _) (Mz _) (b129 _) ?_ rfl ⟨rfl,trivial⟩ trivial rfl ?_)
 ·refine lenC fun _=>Xb ?_;kernel_rfl
 intro L hR hh G';walk_at"vs";exact h
end
end
section
theorem Yw{K:Type}[DecidableEq K]{α β:Type}(f:α->β):∀ (ks:List K) (l:List α) (k:K) (d:α),vput ks (l.map f) k (f d)=(vput ks l k d).map f:=by
 intro ks l k d;unfold vput;split
 ·rename_i h;clear h
  induction ks generalizing l with
  | nil=>rfl
  | cons a ks ih=>
   cases l with
   | nil=>rfl
   | cons b l=>
    simp only[map_cons,zipWith_cons_cons,ih];congr 1;split <;> rfl
 ·simp
theorem Wu{K:Type}[DecidableEq K]{α β:Type}(f:α->β):∀ (ks:List K) (l:List α) (k:K),vat ks (l.map f) k=(vat ks l k).map f:=by
 intro ks
 induction ks with
 | nil=>intro l k;rfl
 | cons a ks ih=>
  intro l k;cases l with
  | nil=>rfl
  | cons b l=>rw[map_cons,Zd,Zd,ih];split <;> rfl
noncomputable def Zl(a:List Str × List Int)(p:Str × Int):List Str × List Int:=if p.1 ∈ a.1 then (Zo a.1 p.1,vput a.1 a.2 p.1 ((vat a.1 a.2 p.1).getD 0 + p.2)) else (Zo a.1 p.1,vput a.1 a.2 p.1 p.2)
noncomputable def Sw(ks:List Str)(l:List Int)(ks':List Str)(l':List Int):List Str × List Int:=(ks'.zip l').foldl Zl (Z9 (ks.zip l) ([],[]))
theorem Qz(a:List Str × List Int)(p:Str × Int):(Zl a p).1.length ≤ a.1.length + 1:=by
 unfold Zl;split <;> exact U2 _ _
theorem T7:∀ (l:List (Str × Int)) (a:List Str × List Int),(l.foldl Zl a).1.length ≤ a.1.length + l.length
 | [],a=>by simp
 | p::l,a=>by
  haveI h1:=T7 l (Zl a p)
  haveI h2:=Qz a p
  rw[foldl_cons,length_cons];exact le_trans h1 (le_trans (add_le_add_right h2 _) (le_of_eq (succ_add_eq_add_succ ..)))
theorem Wx{K:Type}[DecidableEq K]{β:Type}:∀ (l:List (K × β)) (a:List K × List β),a.1.length=a.2.length->(Z9 l a).1.length=(Z9 l a).2.length
 | [],_,h=>h
 | p::l,(ks,vs),h=>Wx l _ (W2 h)
theorem Vc:∀ (l:List (Str × Int)) (a:List Str × List Int),a.1.length=a.2.length->(l.foldl Zl a).1.length=(l.foldl Zl a).2.length
 | [],_,h=>h
 | p::l,a,h=>Vc l _ (by unfold Zl;split <;> exact W2 h)
section
variable{X:Cx}{B:St}{k:Nat}{P:V->St->Prop}
theorem sp_56(G:G3 X)(hA:Rm X.A (k + 1)){ks ks':List Str}{l l':List Int}(hl:ks.length ≤ 1000000)(hl':ks'.length ≤ 1000000)(h:P (.sdict (Sw ks l ks' l').1 ((Sw ks l ks' l').2.map V.int)) B):CALL X (.ref 56) [(.sdict ks (l.map V.int)),(.sdict ks' (l'.map V.int))] B P:=by
 refine CALLR.call (CALLR.defG (ps:=["target", "source"]) (loc:=[("target",some ((.sdict ks (l.map V.int)))),("source",some ((.sdict ks' (l'.map V.int)))),("new_callers",none),("func",none),("caller",none)]) (cel:=[]) (sub:=[]) (rest:=B.mem) G hA (o56 _) (o55 _) (f56 _) (b56 _) ?_ rfl ⟨rfl,rfl,trivial⟩ trivial rfl ?_)
 ·refine lenC fun _=>lenC fun _=>Xb ?_;kernel_rfl
 intro L hR hh G';refine EX.frz ?_;walk_at"v";walk_at"v";refine EV.dictM fun a=>?_;walk_at"v";walk_at"v"
 haveI fin1:(ks.zip (l.map V.int)).map (fun p:Str × V=>V.tup [.str p.1,p.2])=(ks.zip l).map (fun p:Str × Int=>V.tup [.str p.1,.int p.2]):=by
  rw[List.zip_map_right,map_map];rfl
 haveI fin2:(ks'.zip (l'.map V.int)).map (fun p:Str × V=>V.tup [.str p.1,p.2])=(ks'.zip l').map (fun p:Str × Int=>V.tup [.str p.1,.int p.2]):=by
  rw[List.zip_map_right,map_map];rfl
 haveI b1:sizeLine=2 ^ 24:=by decide
 refine ES.for hh ?_;refine EV.meth "dict" "dict.items" F.plainAttrs_dict F.slot_dict_items F.type_dict_items ?_;walk_at"v";refine⟨TypeV.sdict,?_⟩;walk_at"v";refine CALL.sitems ?_;refine .jl (ITER.sitems hh) fin1 (fun _=>True) (fun i o=>⟨[("target",some (.sdict ks (l.map V.int))),("source",some (.sdict ks' (l'.map V.int))),("new_callers",some (.ref a)),("func",o 0),("caller",o 1)],[],[],[(a,.sdict (Z9 ((ks.zip l).take i) ([],[])).1 ((Z9 ((ks.zip l).take i) ([],[])).2.map V.int))]⟩) [none,none] trivial rfl ?_ ?_
 ·intro i ⟨x,y⟩ o hx _;walk_at"vs";refine ES.asgSub ?_ (by walk_at"vside");walk_at"vs"
  haveI h2:=Ys ((ks.zip l).take i) ([],[])
  haveI h3:(ks.zip l).length ≤ ks.length:=by rw[length_zip];exact(min_le_left ..)
  rw[length_take] at h2;simp only[length_nil] at h2;refine SETI.scell (by walk_at"vm") (by exact le_trans h2 (le_trans (le_of_eq (zero_add _)) (le_trans (min_le_right ..) (le_trans h3 (le_trans hl (by decide)))))) (by walk_at"vum") ?_;walk_at"vs";refine JS.at [some (.str x),some (.int y)] trivial ?_;rw[Za hx,Yv,Yw];rfl
 ·intro o _;walk_at"v";rw[take_length];refine ES.for hh ?_;refine EV.meth "dict" "dict.items" F.plainAttrs_dict F.slot_dict_items F.type_dict_items ?_;walk_at"v";refine⟨TypeV.sdict,?_⟩;walk_at"v";refine CALL.sitems ?_;refine .jl (ITER.sitems hh) fin2 (fun _=>True) (fun i q=>⟨[("target",some (.sdict ks (l.map V.int))),("source",some (.sdict ks' (l'.map V.int))),("new_callers",some (.ref a)),("func",q 0),("caller",q 1)],[],[],[(a,.sdict (((ks'.zip l').take i).foldl Zl (Z9 (ks.zip l) ([],[]))).1 ((((ks'.zip l').take i).foldl Zl (Z9 (ks.zip l) ([],[]))).2.map V.int))]⟩) [o 0,o 1] trivial rfl ?_ ?_
  ·intro i ⟨x,y⟩ q hx _
   haveI h2:=Ys (ks.zip l) ([],[])
   haveI h3:(ks.zip l).length ≤ ks.length:=by rw[length_zip];exact(min_le_left ..)
   haveI h4:=T7 ((ks'.zip l').take i) (Z9 (ks.zip l) ([],[]))
   haveI h5:((ks'.zip l').take i).length ≤ ks'.length:=by rw[length_take,length_zip];exact(le_trans (min_le_right ..) (min_le_left ..))
   simp only[length_nil] at h2
   haveI h6:=Vc ((ks'.zip l').take i) (Z9 (ks.zip l) ([],[])) (Wx _ _ rfl)
   haveI h7:((ks'.zip l').take (i + 1)).foldl Zl (Z9 (ks.zip l) ([],[]))=Zl (((ks'.zip l').take i).foldl Zl (Z9 (ks.zip l) ([],[]))) (x,y):=by
    rw[Za hx,foldl_append];rfl
   generalize ((ks'.zip l').take i).foldl Zl (Z9 (ks.zip l) ([],[]))=st at *;walk_at"vs";refine CMP.inSC (by walk_at"vm") ?_;walk_at"v"
   by_cases hm:x ∈ st.1
   ·refine(if_pos (by exact if_pos (by assumption))).mpr ?_;walk_at"vs";refine EV.callB (by walk_at"vg") "isinstance" (by walk_at"vbn") ?_;walk_at"vs";refine CALL.isiIT ?_;walk_at"vs";refine(if_neg (by decide)).mpr ?_;walk_at"vs";obtain⟨o,ho⟩:=Option.isSome_iff_exists.mp ((Xn h6).trans (decide_eq_true hm));refine SUB.scell (d:=.int o) (by walk_at"vm") (by rw[Wu,ho];rfl) ?_;walk_at"vs";refine SETI.scell (by walk_at"vm") (by exact le_trans h4 (le_trans (add_le_add (le_trans h2 (le_trans (le_of_eq (zero_add _)) (le_trans h3 hl))) (le_trans h5 hl')) (by decide))) (by walk_at"vum") ?_;walk_at"vs";refine JS.at [some (.str x),some (.int y)] trivial ?_
    haveI e:Zl st (x,y)=(Zo st.1 x,vput st.1 st.2 x (o + y)):=by
     unfold Zl;rw[if_pos hm,ho];rfl
    rw[h7,e,Yw];rfl
   ·refine(if_neg (by simpa using hm)).mpr ?_;walk_at"vs";refine ES.asgSub ?_ (by walk_at"vside");walk_at"vs";refine SETI.scell (by walk_at"vm") (by exact le_trans h4 (le_trans (add_le_add (le_trans h2 (le_trans (le_of_eq (zero_add _)) (le_trans h3 hl))) (le_trans h5 hl')) (by decide))) (by walk_at"vum") ?_;walk_at"vs";refine JS.at [some (.str x),some (.int y)] trivial ?_
    haveI e:Zl st (x,y)=(Zo st.1 x,vput st.1 st.2 x y):=by
     unfold Zl;rw[if_neg hm]
    rw[h7,e,Yw];rfl
  ·intro q _;rw[take_length];walk_at"vs";refine⟨a,_,⟨[("target",none),("source",none),("new_callers",none),("func",none),("caller",none)],[],[],[]⟩,_,⟨rfl,⟨_,.here,.rest⟩,.drop (.drop (.drop (.drop (.drop .nil)))),.nil,rfl⟩,.ret .at,?_⟩;exact h
end
end
section
section
variable{X:Cx}{B:St}{k:Nat}{P:V->St->Prop}
theorem sp_49(G:G3 X)(hA:Rm X.A (k + 1 + 1)){a1 a2 a3 a4 b1 b2 b3 b4:Int}{ks ks':List Str}{l l':List Int}(hl:ks.length ≤ 1000000)(hl':ks'.length ≤ 1000000)(h:P (.tup [.int (b1 + a1),.int (b2 + a2),.int (b3 + a3),.int (b4 + a4),.sdict (Sw ks l ks' l').1 ((Sw ks l ks' l').2.map V.int)]) B):CALL X (.ref 49) [(.tup [.int a1,.int a2,.int a3,.int a4,.sdict ks (l.map V.int)]),(.tup [.int b1,.int b2,.int b3,.int b4,.sdict ks' (l'.map V.int)])] B P:=by
 refine CALLR.call (CALLR.defG (ps:=["target", "source"]) (loc:=[("target",some ((.tup [.int a1,.int a2,.int a3,.int a4,.sdict ks (l.map V.int)]))),("source",some ((.tup [.int b1,.int b2,.int b3,.int b4,.sdict ks' (l'.map V.int)]))),("cc",none),("nc",none),("tt",none),("ct",none),("callers",none),("t_cc",none),("t_nc",none),("t_tt",none),("t_ct",none),("t_callers",none)]) (cel:=[]) (sub:=[]) (rest:=B.mem) G hA (o49 _) (o48 _) (f49 _) (b49 _) ?_ rfl ⟨rfl,rfl,trivial⟩ trivial rfl ?_)
 ·refine lenC fun _=>lenC fun _=>Xb ?_;kernel_rfl
 intro L hR hh G';walk_at"v";walk_at"vag";walk_at"vs";walk_at"vag";walk_at"vs";refine EV.callG (by walk_at"vg") 56 (by walk_at"vgn") (o56 _) (f56 _) ?_;walk_at"vs";refine sp_56 G' hR hl hl' ?_;walk_at"vss";exact h
theorem sp_153(G:G3 X)(hA:Rm X.A (k + 1 + 1)){i:Int}(h:P (.int (if i == 0 then 0 else if i < 256 then 1 else 2)) B):CALL X (.ref 153) [.int i] B P:=by
 refine CALLR.call (CALLR.defG (ps:=["symbol"]) (loc:=[("symbol",some (.int i)),("told",none)]) (cel:=[]) (sub:=[]) (rest:=B.mem) G hA (Ly _) (o152 _) (Km _) (b153 _) ?_ rfl ⟨rfl,trivial⟩ trivial rfl ?_)
 ·refine lenC fun _=>Xb ?_;kernel_rfl
 intro L hR hh G';walk_at"vs";refine EV.list ?_;walk_at"vs";refine EV.callG (by walk_at"vg") 129 (by walk_at"vgn") (Md _) (Mz _) ?_;walk_at"vs";refine sp_129 G' hR ?_;walk_at"vs";refine EV.callG (by walk_at"vg") 115 (by walk_at"vgn") (I4 _) (Ir _) ?_;walk_at"vs";refine sp_115 G' hR ?_;walk_at"vs";refine EV.callG (by walk_at"vg") 122 (by walk_at"vgn") (I3 _) (Iq _) ?_;walk_at"vs";refine sp_122 G' hR ?_;walk_at"vss";refine EV.callB (by walk_at"vg") "all" (by walk_at"vbn") ?_;walk_at"vs";refine EV.lcm (α:=Bool) ?_ (by kernel_rfl) (by kernel_rfl) rfl (by intro _;rfl);walk_at"vs";refine⟨_,[],[],[i == 0,decide (i < 256),decide (256 ≤ i)],V.bool,fun _=>.bool true,ITERC.list hh,by walk_at"vsc",le_of_ble_eq_true (by rfl),?_,?_⟩
 ·intro C D c x hx;walk_at"vs";refine EV.callB (by walk_at"vg") "isinstance" (by walk_at"vbn") ?_;walk_at"vs";refine CALL.isiBB ?_;exact⟨rfl,by walk_at"vback"⟩
 walk_at"vs";refine CALL.all (l:=[true,true,true]) hh ?_;walk_at"vs";refine(if_neg (by decide)).mpr ?_;walk_at"vs";refine EV.meth "list" "list.index" F.plainAttrs_list F.slot_list_index F.type_list_index ?_;refine EV.list ?_;walk_at"v";refine EV.list ?_;walk_at"vss";refine EV.list ?_;walk_at"vss";refine EV.list ?_;walk_at"vss";refine⟨TypeV.list,?_⟩;walk_at"vs"
 by_cases h0:i=0
 ·subst h0;refine CALL.index (f:=fun d=>(veq 3 d (.list [.bool true,.bool true,.bool false])).getD false) 3 hR (fun d hd=>?_) (j:=0) (by kernel_rfl) (by decide) ?_
  ·simp only[mem_cons,not_mem_nil,or_false] at hd;rcases hd with rfl | rfl | rfl <;> kernel_rfl
  walk_at"vs";exact h
 have e0:(i == 0)=false:=by exact if_neg (by assumption)
 rw[e0] at h ⊢
 by_cases h1:i < 256
 ·have e1:decide (i < 256)=true:=decide_eq_true h1;have e2:decide (256 ≤ i)=false:=decide_eq_false (by exact Int.not_le.mpr h1);refine cq (by rw[e1,e2]) ?_;refine CALL.index (f:=fun d=>(veq 3 d (.list [.bool false,.bool true,.bool false])).getD false) 3 hR (fun d hd=>?_) (j:=1) (by kernel_rfl) (by decide) ?_
  ·simp only[mem_cons,not_mem_nil,or_false] at hd;rcases hd with rfl | rfl | rfl <;> kernel_rfl
  rw[if_neg (by decide),if_pos h1] at h;walk_at"vs";exact h
 ·have e1:decide (i < 256)=false:=decide_eq_false h1;have e2:decide (256 ≤ i)=true:=decide_eq_true (by exact(Int.not_lt.mp h1));refine cq (by rw[e1,e2]) ?_;refine CALL.index (f:=fun d=>(veq 3 d (.list [.bool false,.bool false,.bool true])).getD false) 3 hR (fun d hd=>?_) (j:=2) (by kernel_rfl) (by decide) ?_
  ·simp only[mem_cons,not_mem_nil,or_false] at hd;rcases hd with rfl | rfl | rfl <;> kernel_rfl
  rw[if_neg (by decide),if_neg h1] at h;walk_at"vs";exact h
end
end
section
noncomputable def o38(P:Params):{o:Obj // (K3 P).lookup 38=some o}:=⟨k38 P,by kernel_rfl⟩
noncomputable def o37(P:Params):{o:Obj // (K3 P).lookup 37=some o}:=⟨k37 P,by kernel_rfl⟩
noncomputable def Gv(P:Params):{e:Array DictEntry × Nat // (o37 P).1.data=.dict e.1 e.2}:=⟨(_,_),rfl⟩
noncomputable def K80(P:Params):Frag:=[(38,(o38 P).1),(37,(o37 P).1),(28,(o28 P).1)]
set_option tactic.hygienic true in
theorem To{es:Array DictEntry}(h:es.toList.all (fun e=>match e.key with | .str _ _=>true | _=>false)=true):StrKeys es:=fun e he=>by
 haveI:=all_eq_true.mp h e (by simpa using he)
 split at this
 ·rename_i n t ht;exact⟨n,t,ht⟩
 ·exact ftE this
theorem c80(P:Params):∃ nm q bs sn sub col dd k0 k1 k2 k3 k5,(o38 P).1=excClassObj nm q 38 37 bs [.type "object"] true sn sub false col dd k0 k1 k2 k3 k5 "object.__new__" :=⟨_,_,_,_,_,_,_,_,_,_,_,_,rfl⟩
noncomputable def mN80(P:Params):Str->Option Value:=nsFind (Gv P).1.1
section
variable{X:Cx}{B:St}{k:Nat}{P:V->St->Prop}
theorem L8(G:G3 X):ClsX X 38 37 (mN80 X.w.params):=by
 refine⟨⟨?_,?_⟩,fun o ho=>?_⟩
 ·obtain⟨nm,q,bs,sn,sub,col,dd,k0,k1,k2,k3,k5,e⟩:=c80 X.w.params;exact⟨nm,q,bs,sn,sub,col,dd,k0,k1,k2,k3,k5,by rw[<- e];exact G.K _ _ (o38 _).2⟩
 ·exact⟨_,_,_,G.K _ _ (o37 _).2,(Gv _).2,To (by kernel_rfl),fun _=>rfl⟩
 ·haveI:=G.K _ _ (o38 X.w.params).2
  rw[ho] at this;cases this;exact Y6 (n:= "type") (by kernel_rfl)
theorem J8(G:G3 X):KIn X (K80 X.w.params):=KIn.cons (G.K _ _ (o38 _).2) (Y6 (n:= "type") (by kernel_rfl)) (KIn.cons (G.K _ _ (o37 _).2) (Y6 (n:= "dict") (by kernel_rfl)) (KIn.cons (G.K _ _ (o28 _).2) (Y6 (n:= "function") (by kernel_rfl)) KIn.nil))
theorem sp_28(G:G3 X)(hA:Rm X.A (k + 1)){x dx:Addr}{d:V}{m:List (Addr × Cell)}(hm:B.mem=m++[(x,Cell.raw (·=instObj 38 dx)),(dx,Cell.ns [])])(h:P .none {B with mem:=m++[(x,Cell.raw (·=instObj 38 dx)),(dx,Cell.ns [("comp_select_list",d)])]})  :CALLR X (.ref 28) [.ref x,d] B P:=by
 refine CALLR.defG (ps:=["self", "comp_select_list"]) (loc:=[("self",some (.ref x)),("comp_select_list",some (d))]) (cel:=[]) (sub:=m++[(x,Cell.raw (·=instObj 38 dx)),(dx,Cell.ns [])]) (rest:=[]) G hA (o28 _) (o27 _) (f28 _) (b28 _) ?_ rfl ⟨rfl,rfl,trivial⟩ trivial (by rw[hm,append_nil]) ?_
 ·refine lenC fun _=>lenC fun _=>Xb ?_;kernel_rfl
 intro L hR hh G';walk_at"v";refine ES.asgAttr ?_ (by walk_at"vside");walk_at"vs";refine⟨x,rfl,?_⟩;refine SETA.inst 38 37 _ (L8 G') (by kernel_rfl) (by kernel_rfl) (by rw[typeLookup_type,builtinLookup_eq_fast];kernel_rfl) (by walk_at"vm") (by walk_at"vm") .new (by walk_at"vum") (by decide) ?_;walk_at"vs";rw[append_nil];exact h
noncomputable def csV(p:Nat × Int):V:=.tup [nat p.1,.int p.2]
noncomputable abbrev Rf(l:Int × Int × Int):V:=.tup [.int l.1,.int l.2.1,.int l.2.2]
noncomputable def Zw(l:Int × Int × Int)(i:Nat):Int:=if i=0 then l.1 else if i=1 then l.2.1 else l.2.2
noncomputable def Yb:List (Nat × Int)->Int × Int × Int->Int × Int × Int->Int
 | [],_,_=>0
 | p::cs,l,r=>if Zw l p.1 < Zw r p.1 then -p.2 else if Zw r p.1 < Zw l p.1 then p.2 else Yb cs l r
theorem SUB.t3{l:Int × Int × Int}{i:Nat}(hi:i < 3)(h:P (.int (Zw l i)) B):SUB X (Rf l) (nat i) B P:=by
 unfold Zw at h
 match i,hi with
 | 0,_=>exact SUB.ti 0 (d:=.int l.1) rfl rfl (le_of_ble_eq_true rfl) h
 | 1,_=>exact SUB.ti 1 (d:=.int l.2.1) rfl rfl (le_of_ble_eq_true rfl) h
 | 2,_=>exact SUB.ti 2 (d:=.int l.2.2) rfl rfl (le_of_ble_eq_true rfl) h
theorem sp_35(G:G3 X)(hA:Rm X.A (k + 1)){x dx:Addr}{cs:List (Nat × Int)}{l r:Int × Int × Int}(hcs:∀ p ∈ cs,p.1 < 3)(hx:(x,Cell.raw (·=instObj 38 dx)) ∈ B.mem)(hd:(dx,Cell.ns [("comp_select_list",V.list (cs.map csV))]) ∈ B.mem)(h:P (.int (Yb cs l r)) B):CALL X (.ref 35) [.ref x,Rf l,Rf r] B P:=by
 refine CALLR.call (CALLR.defG (ps:=["self", "left", "right"]) (loc:=[("self",some (.ref x)),("left",some (Rf l)),("right",some (Rf r)),("index",none),("direction",none),("l",none),("r",none)]) (cel:=[]) (sub:=B.mem) (rest:=[]) G hA (o35 _) (o34 _) (f35 _) (b35 _) ?_ rfl ⟨rfl,rfl,rfl,trivial⟩ trivial (append_nil _).symm ?_)
 ·refine lenC fun _=>lenC fun _=>lenC fun _=>Xb ?_;kernel_rfl
 intro L hR hh G';walk_at"v";refine ES.for hh ?_;refine EV.attrI 38 37 _ (L8 G') (by kernel_rfl) (by kernel_rfl) (by rw[typeLookup_type,builtinLookup_eq_fast];kernel_rfl) ?_;walk_at"vs";refine⟨x,dx,_,_,rfl,hx,hd,mem_hd,(fun Z v hv=>?_),?_⟩
 ·obtain⟨a,its,n,rfl,_⟩:=hv;rfl
 refine .jl (ITER.list hh) rfl (fun i=>Yb (cs.drop i) l r=Yb cs l r) (fun i o=>⟨[("self",some (V.ref x)),("left",some (Rf l)),("right",some (Rf r)),("index",o 0),("direction",o 1),("l",o 2),("r",o 3)],[],[],B.mem⟩) [none,none,none,none] rfl rfl ?_ ?_
 ·intro i p o hp ν
  haveI h2:=hcs p (mem_of_getElem? hp)
  haveI hdr:cs.drop i=p::cs.drop (i + 1):=by
   obtain⟨hlt,e⟩:=List.getElem?_eq_some_iff.mp hp;rw[drop_eq_getElem_cons hlt,e]
  haveI e0:Yb (p::cs.drop (i + 1)) l r=if Zw l p.1 < Zw r p.1 then -p.2 else if Zw r p.1 < Zw l p.1 then p.2 else Yb (cs.drop (i + 1)) l r:=rfl
  rw[hdr,e0] at ν;unfold csV;walk_at"vs";refine SUB.t3 h2 ?_;walk_at"vs";refine SUB.t3 h2 ?_;walk_at"vs"
  by_cases h3:Zw l p.1 < Zw r p.1
  ·refine(if_pos (decide_eq_true h3)).mpr ?_;rw[if_pos h3] at ν;walk_at"vs";rw[ν,append_nil];exact h
  ·refine(if_neg fun q=>h3 (of_decide_eq_true q)).mpr ?_;rw[if_neg h3] at ν;walk_at"vs"
   by_cases h4:Zw r p.1 < Zw l p.1
   ·refine(if_pos (decide_eq_true h4)).mpr ?_;rw[if_pos h4] at ν;walk_at"vs";rw[ν,append_nil];exact h
   ·refine(if_neg fun q=>h4 (of_decide_eq_true q)).mpr ?_;rw[if_neg h4] at ν;walk_at"vs";exact JS.at [_,_,_,_] ν rfl
 ·intro o ν;walk_at"vs";rw[List.drop_length] at ν;rw[<- ν] at h
  simpa [N3,Yb] using h
end
end
section
noncomputable def Zy(c i:Nat):Nat:=c / 20 ^ (i % 5) % 20
noncomputable def V9(q:Bool):Str:=if q then "\"\\" else "\\ \t\n\r"
noncomputable def Xe(q:Bool):Str:=if q then "\"" else ""
noncomputable def W9(q:Bool):List Str:=[" ", "\t", "\n", "\r",if q then "" else "\n "]
noncomputable def Yn(q full:Bool)(n:Nat):Str:=if full || decide (n ∈ (V9 q).cps.toList) then "\\" ++⟨#[n]⟩ else ⟨#[n]⟩
noncomputable def Ta(sty:Nat)(w:Str):Str:=Xe (sty % 2 == 1)++Txt.join "" (w.cps.toList.map (Yn (sty % 2 == 1) (sty / 2 % 2 == 1)))++Xe (sty % 2 == 1)++(W9 (sty % 2 == 1)).getD (sty / 4) ""
noncomputable def Tn(ar:List Str)(c:Nat):Str:=(List.range ar.length).foldl (fun t i=>t++Ta (Zy c i) (ar.getD i "")) ""
theorem My(a b:Nat):(a:Int).fdiv (b:Int)=((a / b:Nat):Int):=by rw[Int.fdiv_eq_ediv_of_nonneg _ (by exact natCast_nonneg _)];rfl
theorem Mx(a b:Nat):(a:Int).fmod (b:Int)=((a % b:Nat):Int):=by rw[Int.fmod_eq_emod_of_nonneg _ (by exact natCast_nonneg _)];rfl
section
variable{X:Cx}{B:St}{k:Nat}{P:V->St->Prop}
theorem BIN.divN{a:Nat}(b:Nat)(h:P (nat (a / b)) B)(hb:0 < b /\ b < 1073741824):BIN X .FloorDiv (nat a) (nat b) B P:=BIN.div (by rw[My];exact h) (by exact⟨ofNat_lt.mpr hb.1,ofNat_lt.mpr hb.2⟩)
theorem BIN.modN{a:Nat}(b:Nat)(h:P (nat (a % b)) B)(hb:b ≠ 0):BIN X .Mod (nat a) (nat b) B P:=BIN.mod (by rw[Mx];exact h) (by exact fun q=>hb ((ofNat_inj (n:=0)).mp q))
theorem BIN.powN(a:Nat){b:Nat}(h:P (nat (a ^ b)) B)(hb:b ≤ 1000)(ha:a < 2 ^ 60):BIN X .Pow (nat a) (nat b) B P:=BIN.pow (by
 haveI e:((a:Int) ^ ((b:Int)).toNat)=((a ^ b:Nat):Int):=by rw[toNat_natCast,Int.natCast_pow]
 rw[e];exact h) (by exact⟨natCast_nonneg _,ofNat_le.mpr hb⟩) (by exact⟨Int.lt_of_lt_of_le (by decide) (natCast_nonneg _),Int.lt_trans (ofNat_lt.mpr ha) (by decide)⟩)
theorem CMP.eqN{a:Nat}(b:Nat)(h:P (.bool (a == b)) B):CMP X .Eq (nat a) (nat b) B P:=CMP.eqi (by
 haveI e:((a:Int) == (b:Int))=(a == b):=by rw[Bool.eq_iff_iff,beq_iff_eq,beq_iff_eq];exact ofNat_inj
 rw[e];exact h)
theorem Ms:∀ (ys:List Str) (n:Nat),(∀ y ∈ ys,y.length ≤ n)->(ys.map (·.length)).sum ≤ n * ys.length:=by
 intro ys n h
 induction ys with
 | nil=>exact zero_le _
 | cons a ys ih=>
  haveI h1:=ih fun y hy=>h y (.tail _ hy)
  haveI h2:=h a (.head _)
  rw[map_cons,sum_cons,length_cons,Nat.mul_add];exact le_trans (add_le_add h2 h1) (le_of_eq (by rw[Nat.mul_one,Nat.add_comm]))
theorem sp_134(G:G3 X)(hA:Rm X.A (k + 1)){ar:List Str}{c:Nat}(hl:ar.length ≤ 40)(hw:∀ w ∈ ar,w.length ≤ 20)(hc:c ≤ 10 ^ 12)(h:P (.str (StrLaws.sliceText (Tn ar c) none (some (-1)))) B):CALL X (.ref 134) [(V.list (ar.map V.str)),nat c] B P:=by
 refine CALLR.call (CALLR.defG (ps:=["words", "cell"]) (loc:=[("words",some ((V.list (ar.map V.str)))),("cell",some (nat c)),("text",none),("i",none),("style",none),("quoted",none),("mark",none),("gap",none)]) (cel:=[("full",none),("need",none)]) (sub:=[]) (rest:=B.mem) G hA (I2 _) (o133 _) (Kn _) (F3 _) ?_ rfl ⟨rfl,rfl,trivial⟩ trivial rfl ?_)
 ·refine lenC fun _=>lenC fun _=>Xb ?_;kernel_rfl
 intro L hR hh G'
 haveI sl:sizeLine=2 ^ 24:=by decide
 walk_at"vs";refine ES.for hh ?_;refine EV.rangeC (by walk_at"vg") ?_;walk_at"vs";refine EV.lenC (by walk_at"vg") ?_;walk_at"vs";refine CALL.lenL (by rw[length_map];exact le_trans hl (by decide)) ?_;walk_at"vs";refine cq (by rw[length_map]) ?_;refine CALL.range ?_;refine .jr hh (by exact le_trans hl (by decide)) (fun i=>(((List.range ar.length).take i).foldl (fun t i=>t++Ta (Zy c i) (ar.getD i "")) "").length ≤ 50 * i) (fun i o=>⟨[("words",some (V.list (ar.map V.str))),("cell",some (nat c)),("text",some (.str (((List.range ar.length).take i).foldl (fun t i=>t++Ta (Zy c i) (ar.getD i "")) ""))),("i",o 0),("style",o 1),("quoted",o 2),("mark",o 3),("gap",o 4)],[("full",o 5),("need",o 6)],[],[]⟩) [none,none,none,none,none,none,none] (zero_le _) rfl ?_ ?_
 ·intro i' o hil hk
  haveI hi':(List.range ar.length)[i']?=some i':=getElem?_range hil
  haveI hst:((List.range ar.length).take (i' + 1)).foldl (fun t i=>t++Ta (Zy c i) (ar.getD i "")) "" =((List.range ar.length).take i').foldl (fun t i=>t++Ta (Zy c i) (ar.getD i "")) "" ++Ta (Zy c i') (ar.getD i' ""):=by
   rw[Za hi',foldl_append];rfl
  generalize ((List.range ar.length).take i').foldl (fun t i=>t++Ta (Zy c i) (ar.getD i "")) "" =tx at *;walk_at"vs";refine BIN.modN 5 ?_ (by decide)
  haveI hm5:i' % 5 < 5:=mod_lt _ (by decide)
  haveI hp5:20 ^ (i' % 5) ≤ 20 ^ 4:=Nat.pow_le_pow_right (by decide) (le_of_lt_succ hm5)
  haveI hp0:0 < 20 ^ (i' % 5):=Nat.pow_pos (by decide)
  refine BIN.powN 20 ?_ (le_trans (le_of_lt hm5) (by decide)) (by decide);refine BIN.divN _ ?_ ⟨hp0,lt_of_le_of_lt hp5 (by decide)⟩;walk_at"vs";refine BIN.modN 20 ?_ (by decide)
  haveI hs20:c / 20 ^ (i' % 5) % 20 < 20:=mod_lt _ (by decide)
  haveI hse:Zy c i'=c / 20 ^ (i' % 5) % 20:=rfl
  rw[hse] at hst;generalize c / 20 ^ (i' % 5) % 20=sty at *;walk_at"v";walk_at"v";walk_at"vag";walk_at"vs";refine BIN.modN 2 ?_ (by decide);walk_at"v";refine CMP.eqN 1 ?_;walk_at"vs";refine BIN.divN 2 ?_ (by decide);walk_at"v";refine BIN.modN 2 ?_ (by decide);walk_at"v";refine CMP.eqN 1 ?_;walk_at"vss"
  haveI he:Ta sty (ar.getD i' "")=Xe (sty % 2 == 1)++Txt.join "" ((ar.getD i' "").cps.toList.map (Yn (sty % 2 == 1) (sty / 2 % 2 == 1)))++Xe (sty % 2 == 1)++(W9 (sty % 2 == 1)).getD (sty / 4) "" :=rfl
  rw[he] at hst;generalize (sty % 2 == 1)=q at *;generalize (sty / 2 % 2 == 1)=fu at *
  haveI hwi:ar.getD i' "" ∈ ar:=by
   haveI:ar.getD i' "" =ar[i']:=by rw[getD_eq_getElem?_getD,getElem?_eq_getElem hil];rfl
   rw[this];exact getElem_mem _
  haveI hwl:=hw _ hwi
  generalize hwd:ar.getD i' "" =wd at *
  haveI h4:sty / 4 < 5:=by exact Nat.div_lt_of_lt_mul (show sty < 4 * 5 from hs20)
  haveI hsl:∀ n,(Yn q fu n).length ≤ 2:=fun n=>by unfold Yn;split <;> exact le_of_ble_eq_true rfl
  haveI hgl:((W9 q).getD (sty / 4) "").length ≤ 2:=by
   generalize sty / 4=g at h4
   match g,h4 with
   | 0,_=>exact le_of_ble_eq_true rfl
   | 1,_=>exact le_of_ble_eq_true rfl
   | 2,_=>exact le_of_ble_eq_true rfl
   | 3,_=>exact le_of_ble_eq_true rfl
   | 4,_=>cases q <;> exact le_of_ble_eq_true rfl
  haveI hml:(Xe q).length ≤ 1:=by cases q <;> exact le_of_ble_eq_true rfl
  haveI hj:=Ms (wd.cps.toList.map (Yn q fu)) 2 (fun y hy=>by obtain⟨n,_,rfl⟩:=mem_map.mp hy;exact hsl n)
  haveI hwl2:(wd.cps.toList.map (Yn q fu)).length=wd.length:=by exact length_map ..
  haveI hjl:(Txt.join "" (wd.cps.toList.map (Yn q fu))).length ≤ 40:=by
   haveI h1:=size_glued "" (wd.cps.toList.map (Yn q fu))
   rw[show(Str.ofString "").length=0 from rfl,Nat.mul_zero] at h1
   haveI h2:Txt.join "" (wd.cps.toList.map (Yn q fu))=Builtin.Str.glued "" (wd.cps.toList.map (Yn q fu)):=rfl
   rw[h2];exact le_trans (le_of_eq h1) (le_trans hj (mul_le_mul_left 2 (le_trans (le_of_eq hwl2) hwl)))
  haveI fin:EX (X.callee (Kn X.w.params).1 L 134) (match (F3 X.w.params).1 with | [_,.For _ _ [_,_,_,_,st] _ _,_]=>[st] | _=>[]) ⟨[("words",some (V.list (ar.map V.str))),("cell",some (nat c)),("text",some (.str tx)),("i",some (nat i')),("style",some (nat sty)),("quoted",some (.bool q)),("mark",some (.str (Xe q))),("gap",some (.str ((W9 q).getD (sty / 4) "")))],[("full",some (.bool fu)),("need",some (.str (V9 q)))],[],[]⟩ fun f B4=>f=.next /\ B4=⟨[("words",some (V.list (ar.map V.str))),("cell",some (nat c)),("text",some (.str (tx++(Xe q++Txt.join "" (wd.cps.toList.map (Yn q fu))++Xe q++(W9 q).getD (sty / 4) "")))),("i",some (nat i')),("style",some (nat sty)),("quoted",some (.bool q)),("mark",some (.str (Xe q))),("gap",some (.str ((W9 q).getD (sty / 4) "")))],[("full",some (.bool fu)),("need",some (.str (V9 q)))],[],[]⟩:=by
   walk_at"vs";refine EV.meth "str" "str.join" F.plainAttrs_str F.slot_str_join F.type_str_join ?_;walk_at"v";refine⟨TypeV.str,?_⟩;walk_at"v";refine EV.lcm (α:=Nat) ?_ (by kernel_rfl) (by kernel_rfl) rfl (by intro _;rfl);walk_at"vs";refine SUB.li i' "" rfl hil (by exact le_trans hl (by decide)) ?_;refine pq (by rw[hwd]) ?_;refine⟨_,[],_,wd.cps.toList,fun n=>V.str ⟨#[n]⟩,fun n=>V.str (Yn q fu n),ITERC.str hh,by walk_at"vsc",by(show wd.cps.toList.length ≤ _;haveI:wd.cps.toList.length=wd.length:=(by simp[Str.length]);exact le_trans (le_of_eq this) (le_trans hwl (by decide))),?_,?_⟩
   ·intro C D c' n hn;walk_at"vs";cases fu with
    | true=>
     refine(if_pos rfl).mpr ?_;refine(if_pos rfl).mpr ?_;walk_at"vs";refine BIN.adds ?_ (le_of_ble_eq_true rfl);exact⟨rfl,by walk_at"vback"⟩
    | false=>
     refine(if_neg (by decide)).mpr ?_;walk_at"vs";refine CMP.inS ?_;walk_at"v"
     by_cases hin:n ∈ (V9 q).cps.toList
     ·rw[if_pos (decide_eq_true hin),if_pos rfl];walk_at"vs";refine BIN.adds ?_ (le_of_ble_eq_true rfl);refine⟨?_,by walk_at"vback"⟩;unfold Yn;rw[decide_eq_true hin];rfl
     ·refine(if_neg (by simpa using hin)).mpr ?_;walk_at"v";refine(if_neg (by decide)).mpr ?_;walk_at"vs";refine⟨?_,by walk_at"vback"⟩;unfold Yn;rw[decide_eq_false hin];rfl
   haveI ej:wd.cps.toList.map (fun n=>V.str (Yn q fu n))=(wd.cps.toList.map (Yn q fu)).map V.str:=by rw[map_map];rfl
   rw[ej];walk_at"v";refine CALL.join (by rw[show(Str.ofString "").length=0 from rfl,Nat.mul_zero];exact le_trans (le_trans hj (mul_le_mul_left 2 (le_trans (le_of_eq hwl2) hwl))) (by decide)) ?_;refine BIN.adds ?_ (by exact le_trans (add_le_add hml hjl) (by decide));walk_at"vs";refine BIN.adds ?_ (by rw[strLen_append];exact le_trans (add_le_add (add_le_add hml hjl) hml) (by decide));walk_at"vs";refine BIN.adds ?_ (by rw[strLen_append,strLen_append];exact le_trans (add_le_add (add_le_add (add_le_add hml hjl) hml) hgl) (by decide));refine INP.adds ?_ (by rw[strLen_append,strLen_append,strLen_append];exact le_trans (add_le_add (le_trans hk (mul_le_mul_left 50 (le_trans (le_of_lt hil) hl))) (add_le_add (add_le_add (add_le_add hml hjl) hml) hgl)) (by decide));walk_at"vs";exact⟨rfl,rfl⟩
  cases q with
  | false=>
   (first | refine(if_pos rfl).mpr ?_ | refine(if_neg (by decide)).mpr ?_)
   walk_at"v";walk_at"v";walk_at"v";refine ES.asgSw hh ?_ (by walk_at"vside") (by walk_at"vside");walk_at"vs"
   (first | refine(if_pos rfl).mpr ?_ | refine(if_neg (by decide)).mpr ?_)
   walk_at"vs"
   (first | refine(if_pos rfl).mpr ?_ | refine(if_neg (by decide)).mpr ?_)
   walk_at"vss";refine BIN.divN 4 ?_ (by decide);refine SUB.ti (sty / 4) (d:=.str ((W9 false).getD (sty / 4) "")) rfl ?_ (le_of_ble_eq_true rfl) ?_
   ·generalize sty / 4=g at h4
    match g,h4 with
    | 0,_=>rfl
    | 1,_=>rfl
    | 2,_=>rfl
    | 3,_=>rfl
    | 4,_=>rfl
   walk_at"vss";refine⟨_,rfl,rfl,?_⟩;refine SNs.cons ?_;walk_at"v";refine SNs.cons ?_;walk_at"v";refine SNs.nil ?_;refine KT.next ?_;refine J.mono fin fun f B4 ⟨e1,e2⟩=>?_;subst e1 e2;walk_at"vs";rw[hst];refine JS.at [_,_,_,_,_,_,_] ?_ rfl;rw[strLen_append,strLen_append,strLen_append,strLen_append];exact add_le_add hk (le_trans (add_le_add (add_le_add (add_le_add hml hjl) hml) hgl) (by decide))
  | true=>
   (first | refine(if_pos rfl).mpr ?_ | refine(if_neg (by decide)).mpr ?_)
   walk_at"v";walk_at"v";walk_at"v";refine ES.asgSw hh ?_ (by walk_at"vside") (by walk_at"vside");walk_at"vs"
   (first | refine(if_pos rfl).mpr ?_ | refine(if_neg (by decide)).mpr ?_)
   walk_at"vs"
   (first | refine(if_pos rfl).mpr ?_ | refine(if_neg (by decide)).mpr ?_)
   walk_at"vss";refine BIN.divN 4 ?_ (by decide);refine SUB.ti (sty / 4) (d:=.str ((W9 true).getD (sty / 4) "")) rfl ?_ (le_of_ble_eq_true rfl) ?_
   ·generalize sty / 4=g at h4
    match g,h4 with
    | 0,_=>rfl
    | 1,_=>rfl
    | 2,_=>rfl
    | 3,_=>rfl
    | 4,_=>rfl
   walk_at"vss";refine⟨_,rfl,rfl,?_⟩;refine SNs.cons ?_;walk_at"v";refine SNs.cons ?_;walk_at"v";refine SNs.nil ?_;refine KT.next ?_;refine J.mono fin fun f B4 ⟨e1,e2⟩=>?_;subst e1 e2;walk_at"vs";rw[hst];refine JS.at [_,_,_,_,_,_,_] ?_ rfl;rw[strLen_append,strLen_append,strLen_append,strLen_append];exact add_le_add hk (le_trans (add_le_add (add_le_add (add_le_add hml hjl) hml) hgl) (by decide))
 ·intro o hk;rw[show(List.range ar.length).take ar.length=List.range ar.length from take_of_length_le (le_of_eq length_range)] at hk ⊢
  haveI ht:(List.range ar.length).foldl (fun t i=>t++Ta (Zy c i) (ar.getD i "")) "" =Tn ar c:=rfl
  rw[ht] at hk ⊢;walk_at"vs";refine⟨-1,rfl,?_⟩;walk_at"vs";refine SUB.sliceS (by exact le_trans hk (le_trans (mul_le_mul_left 50 hl) (by decide))) ?_;walk_at"vs";exact h
end
end
section
noncomputable def Me(P:Params):{o:Obj // (K3 P).lookup 101=some o}:=⟨Gk P,by kernel_rfl⟩
noncomputable def K2(P:Params):{o:Obj // (K3 P).lookup 100=some o}:=⟨Gl P,by kernel_rfl⟩
noncomputable def Gw(P:Params):{e:Array DictEntry × Nat // (K2 P).1.data=.dict e.1 e.2}:=⟨(_,_),rfl⟩
noncomputable def K52(P:Params):Frag:=[(101,(Me P).1),(100,(K2 P).1),(77,(o77 P).1)]
theorem c52(P:Params):∃ nm q bs sn sub col dd k0 k1 k2 k3 k5,(Me P).1=excClassObj nm q 101 100 bs [.type "object"] true sn sub false col dd k0 k1 k2 k3 k5 "object.__new__" :=⟨_,_,_,_,_,_,_,_,_,_,_,_,rfl⟩
noncomputable def mN52(P:Params):Str->Option Value:=nsFind (Gw P).1.1
noncomputable def wsF:Str:= "\n\t\r "
section
variable{X:Cx}{B:St}{k:Nat}{P:V->St->Prop}
theorem Y7(G:G3 X):ClsX X 101 100 (mN52 X.w.params):=by
 refine⟨⟨?_,?_⟩,fun o ho=>?_⟩
 ·obtain⟨nm,q,bs,sn,sub,col,dd,k0,k1,k2,k3,k5,e⟩:=c52 X.w.params;exact⟨nm,q,bs,sn,sub,col,dd,k0,k1,k2,k3,k5,by rw[<- e];exact G.K _ _ (Me _).2⟩
 ·exact⟨_,_,_,G.K _ _ (K2 _).2,(Gw _).2,To (by kernel_rfl),fun _=>rfl⟩
 ·have:=G.K _ _ (Me X.w.params).2;rw[ho] at this;cases this;exact Y6 (n:= "type") (by kernel_rfl)
theorem Mq(G:G3 X):KIn X (K52 X.w.params):=KIn.cons (G.K _ _ (Me _).2) (Y6 (n:= "type") (by kernel_rfl)) (KIn.cons (G.K _ _ (K2 _).2) (Y6 (n:= "dict") (by kernel_rfl)) (KIn.cons (G.K _ _ (o77 _).2) (Y6 (n:= "function") (by kernel_rfl)) KIn.nil))
theorem sp_77(G:G3 X)(hA:Rm X.A (k + 1)){x dx:Addr}{fp:V}{m:List (Addr × Cell)}(hm:B.mem=m++[(x,Cell.raw (·=instObj 101 dx)),(dx,Cell.ns [])])(h:∀ pb,P .none {B with mem:=m++[(x,Cell.raw (·=instObj 101 dx)),(dx,Cell.ns [("lineno",V.int 1),("instream",fp),("whitespace",V.str wsF),("pushback",V.ref pb)])]++[(pb,Cell.list [])]}):CALLR X (.ref 77) [.ref x,fp] B P:=by
 refine CALLR.defG (ps:=["self", "fp"]) (loc:=[("self",some (.ref x)),("fp",some (fp))]) (cel:=[]) (sub:=m++[(x,Cell.raw (·=instObj 101 dx)),(dx,Cell.ns [])]) (rest:=[]) G hA (o77 _) (o76 _) (f77 _) (b77 _) ?_ rfl ⟨rfl,rfl,trivial⟩ trivial (by rw[hm,append_nil]) ?_
 ·refine lenC fun _=>lenC fun _=>Xb ?_;kernel_rfl
 intro L hR hh G';walk_at"v";refine ES.asgAttr ?_ (by walk_at"vside");walk_at"vs";refine⟨x,rfl,?_⟩;refine SETA.inst 101 100 _ (Y7 G') (by kernel_rfl) (by kernel_rfl) (by rw[typeLookup_type,builtinLookup_eq_fast];kernel_rfl) (by walk_at"vm") (by walk_at"vm") (.new) (by walk_at"vum") (le_of_ble_eq_true rfl) ?_;walk_at"vs";refine ES.asgAttr ?_ (by walk_at"vside");walk_at"vs";refine⟨x,rfl,?_⟩;refine SETA.inst 101 100 _ (Y7 G') (by kernel_rfl) (by kernel_rfl) (by rw[typeLookup_type,builtinLookup_eq_fast];kernel_rfl) (by walk_at"vm") (by walk_at"vm") (.miss (by decide +kernel) .new) (by walk_at"vum") (le_of_ble_eq_true rfl) ?_;walk_at"vs";refine ES.asgAttr ?_ (by walk_at"vside");walk_at"vs";refine⟨x,rfl,?_⟩;refine SETA.inst 101 100 _ (Y7 G') (by kernel_rfl) (by kernel_rfl) (by rw[typeLookup_type,builtinLookup_eq_fast];kernel_rfl) (by walk_at"vm") (by walk_at"vm") (.miss (by decide +kernel) (.miss (by decide +kernel) .new)) (by walk_at"vum") (le_of_ble_eq_true rfl) ?_;walk_at"vs";refine ES.asgAttr ?_ (by walk_at"vside");refine EV.listM ?_;walk_at"vss";intro pb;walk_at"vs";refine⟨x,rfl,?_⟩;refine SETA.inst 101 100 _ (Y7 G') (by kernel_rfl) (by kernel_rfl) (by rw[typeLookup_type,builtinLookup_eq_fast];kernel_rfl) (by walk_at"vm") (by walk_at"vm") (.miss (by decide +kernel) (.miss (by decide +kernel) (.miss (by decide +kernel) .new))) (by walk_at"vum") (le_of_ble_eq_true rfl) ?_;walk_at"vs";rw[append_nil];exact h pb
theorem sp_98(G:G3 X)(hA:Rm X.A (k + 1)){x dx pb:Addr}{fp d:V}{ln:Int}{l:List V}{mem'}(hx:(x,Cell.raw (·=instObj 101 dx)) ∈ B.mem)(hd:(dx,Cell.ns [("lineno",V.int ln),("instream",fp),("whitespace",V.str wsF),("pushback",V.ref pb)]) ∈ B.mem)(hp:(pb,Cell.list l) ∈ B.mem)(hu:UpM pb (.list (l++[d])) B.mem mem')(hs:l.length ≤ sizeLine)(h:P .none {B with mem:=mem'}):CALL X (.ref 98) [.ref x,d] B P:=by
 refine CALLR.call (CALLR.defG (ps:=["self", "token"]) (loc:=[("self",some (.ref x)),("token",some (d))]) (cel:=[]) (sub:=B.mem) (rest:=[]) G hA (o98 _) (o97 _) (f98 _) (b98 _) ?_ rfl ⟨rfl,rfl,trivial⟩ trivial (append_nil _).symm ?_)
 ·refine lenC fun _=>lenC fun _=>Xb ?_;kernel_rfl
 intro L hR hh G';walk_at"vs";refine EV.meth "list" "list.append" F.plainAttrs_list F.slot_list_append F.type_list_append ?_;refine EV.attrI 101 100 _ (Y7 G') (by kernel_rfl) (by kernel_rfl) (by rw[typeLookup_type,builtinLookup_eq_fast];kernel_rfl) ?_;walk_at"vs";refine⟨x,dx,_,_,rfl,hx,hd,by walk_at"vm",(fun Z v hv=>by cases hv;rfl),?_⟩;refine⟨TypeV.cell hp,?_⟩;walk_at"vs";refine CALL.append hp hu ?_ hs;walk_at"vs";rw[append_nil];exact h
end
end
section
noncomputable abbrev one(c:Nat):V:=.str ⟨#[c]⟩
noncomputable def nl(t:List Nat):Int:=(t.count 10:Nat)
structure LxA where
 (L dx pb S DS R c1 c2 c gl:Addr)
 (oS oR:Obj)
noncomputable abbrev nsL(a:LxA)(i:Int):List (Str × V):=[("lineno",V.int i),("instream",V.ref a.S),("whitespace",V.str wsF),("pushback",V.ref a.pb)]
noncomputable abbrev Zp(q:Str)(a:LxA)(i:Int)(t:List Nat)(p:List V):List (Addr × Cell):=
 [(a.gl,.list (t.map one).reverse),(a.c1,.raw (Ur q)),(a.S,.raw (·=a.oS)),(a.c2,.raw (Ur q)),(a.R,.raw (·=a.oR)),(a.DS,.ns [("read",V.ref a.R)]),(a.L,.raw (·=instObj 101 a.dx)),
  (a.dx,.ns (nsL a i)),(a.pb,.list p),(a.c,.raw (Yq a.gl))]
noncomputable def Q6:Stmt->List Stmt × List Stmt × Option (Arguments × PySem.Expr × Scope × Pos)
 | .For _ _ b _ _=>(b,[],none)
 | .If _ b o _=>(b,o,none)
 | .Assign _ (.Lambda p b s q) _=>([],[],some (p,b,s,q))
 | _=>([],[],none)
noncomputable def Hu(s:Stmt):Option (Arguments × PySem.Expr × Scope × Pos):=(Q6 s).2.2
noncomputable def Ic(P:Params):{x:Arguments × PySem.Expr × Scope × Pos // (F2 P).1[2]?.bind Hu=some x}:=⟨(_,_,_,_),rfl⟩
noncomputable def qL(P:Params):Str:=(Rt P).1.qualname++ ".<locals>." ++ "<lambda>"
noncomputable def Ux(P:Params)(a:LxA):Prop:=a.oS.cls=.type "function" /\ (∃ fd,a.oS.data=.func fd) /\ a.oS.dict=some a.DS ∧
 ∃ nm ctv,a.oR=kla_obj "<lambda>" (qL P) (Ic P).1.1 (Ic P).1.2.1 (Ic P).1.2.2.1 [("signs",a.c)] nm a.c2 ctv
structure LamOk(X:Cx):Prop where
 C:CodeHd X.base 140 136
 g:∃ mg,X.base.Ns mainGlobals mg /\ ∃ bm ob,mg "__builtins__" =some (.ref bm) /\ bm ≠ builtinsNs /\ bm ≠ mainGlobals /\ X.base.get? bm=some ob /\ ob.cls=.type "module" /\ ob.dict=some builtinsNs /\ ob.data=.plain
section
variable{X:Cx}{B:St}{k:Nat}{P:V->St->Prop}
theorem LamOk.callee(h:LamOk X){fd L a}:LamOk (X.callee fd L a):=⟨h.C,h.g⟩
theorem sp_141(G:G3 X)(hL:LamOk X)(hA:Rm X.A (k + 3)){text:Str}{rest:List (Addr × Cell)}(hm:B.mem=[(136,Cell.raw (·=tabObj #[]))]++rest)(hs:text.length ≤ sizeLine)
  (h:∀ a tb,Ux X.w.params a->P (.ref a.L) {B with mem:=[(136,Cell.raw (·=tabObj tb))]++Zp (qL X.w.params) a 1 text.cps.toList []++rest}):CALL X (.ref 141) [.str text] B P:=by
 refine CALLR.call (CALLR.defO (ps:=["text"]) (loc:=[("text",some (.str text)),("stream",none)]) (cel:=[("signs",none)]) (sub:=[(136,Cell.raw (·=tabObj #[]))]) (rest:=rest) hA G.lim (G.K _ _ (I1 _).2) (Y6 (n:= "function") (by kernel_rfl)) (Rt X.w.params).2 (F2 _).2 (by kernel_rfl) ⟨140,_,_,_,rfl,G.K _ _ (o140 _).2,rfl,rfl⟩ ?_ rfl (by kernel_rfl) ⟨rfl,trivial⟩ trivial hm (fun L=>rfl) ?_ (by kernel_rfl) (by kernel_rfl) (by kernel_rfl))
 ·refine lenC fun _=>Xb ?_;kernel_rfl
 intro L
 haveI hR:Rm (X.callee (Rt X.w.params).1 L 141).A (k + 2):=hA.deeper
 haveI hh:(X.callee (Rt X.w.params).1 L 141).A.handled=none:=hR.handled
 haveI G':G3 (X.callee (Rt X.w.params).1 L 141):=G.callee
 haveI hL':LamOk (X.callee (Rt X.w.params).1 L 141):=hL.callee
 obtain⟨mg,hmg,hbm⟩:=hL'.g;walk_at"vs";refine EV.call ?_;walk_at"vs";refine⟨_,(fun Z v h=>h),?_⟩;walk_at"vs";refine⟨Keep.type,?_⟩;refine CALL.listS hh hs ?_;walk_at"vs";refine⟨_,rfl,?_⟩;refine SUB.sliceLM ?_ ?_ ?_
 ·unfold Tr;rw[length_map];exact hs
 ·decide
 intro gl;rw[N5];walk_at"vs";refine EV.lam rfl (clos:=[]) (by kernel_rfl) rfl hmg (c:=140) (Pt:=136) (by kernel_rfl) hL'.C (ps:=#[]) (by walk_at"vm") trivial rfl hbm (fun c'=>by walk_at"vum") ?_;intro S c1 ct1;walk_at"vs";refine ES.asgAttr ?_ (by walk_at"vside");refine EV.lam rfl (clos:=[("signs",L + 1)]) (by kernel_rfl) rfl hmg (c:=140) (Pt:=136) (by kernel_rfl) hL'.C (by walk_at"vm") (by exact trivial) (by kernel_rfl) hbm (fun c'=>by walk_at"vum") ?_;intro R c2 ct2;walk_at"vs";refine⟨S,rfl,?_⟩;refine SETA.fn (by walk_at"vm") rfl rfl rfl (by rw[typeLookup_type,builtinLookup_eq_fast];kernel_rfl) (fun ds=>by walk_at"vum") ?_;intro DS;walk_at"vs";refine EV.call ?_;walk_at"vs";refine⟨_,(fun Z v h=>h),?_⟩;walk_at"vs";refine⟨Keep.cls (Mq G') (by kernel_rfl),?_⟩;refine CALL.make (K:=K52 X.w.params) (fI:=77) (Mq G') (by kernel_rfl) (by kernel_rfl) (by kernel_rfl) hR ?_;intro A' x dx hA'
 haveI G2:G3 ((X.callee (Rt X.w.params).1 L 141).at A'):=⟨G'.K0,G'.lim,G'.b,G'.g⟩
 refine sp_77 G2 hA' rfl ?_;intro pb;refine⟨rfl,?_⟩;walk_at"vs";refine⟨"signs",gl,by walk_at"vm",?_⟩;exact h ⟨x,dx,pb,S,DS,R,c1,c2,L + 1,gl,_,_⟩ _ ⟨rfl,⟨_,rfl⟩,rfl,_,_,rfl⟩
end
end
section
theorem X9(c:Nat)(x:Nat):((⟨#[c]⟩:Str) == (⟨#[x]⟩:Str))=decide (c=x):=by
 by_cases h:c=x
 ·subst h;simp
 ·haveI:((⟨#[c]⟩:Str) ≠ ⟨#[x]⟩):=fun e=>h (by simpa using congrArg Str.cps e)
  rw[beq_eq_false_iff_ne.mpr this];simp[h]
section
variable{X:Cx}{B:St}{k:Nat}{P:V->St->Prop}
theorem sp_read(G:G3 X)(hA:Rm X.A (k + 1)){a:LxA}(hok:Ux X.w.params a){i:Int}{t:List Nat}{p:List V}{pre post:List (Addr × Cell)}(hm:B.mem=pre++Zp (qL X.w.params) a i t p++post)(hs:t.length ≤ sizeLine)
  (h0:t=[]->P (.str "") B) (h1:∀ c t',t=c::t'->P (one c) {B with mem:=pre++Zp (qL X.w.params) a i t' p++post}):CALLR X (.ref a.R) [.int 1] B P:=by
 obtain⟨_,_,_,nm,ctv,eR⟩:=hok
 haveI hR:(a.R,Cell.raw (·=a.oR)) ∈ B.mem:=by rw[hm];walk_at"vm"
 haveI hc2:(a.c2,Cell.raw (Ur (qL X.w.params))) ∈ B.mem:=by rw[hm];walk_at"vm"
 haveI hcc:(a.c,Cell.raw (Yq a.gl)) ∈ B.mem:=by rw[hm];walk_at"vm"
 haveI hgl:(a.gl,Cell.list (t.map one).reverse) ∈ B.mem:=by rw[hm];walk_at"vm"
 rw[eR] at hR;refine CALLR.lam (ps:=["size"]) hA G.lim hR rfl rfl rfl hc2 ?_ rfl ?_ ?_ ?_ (by kernel_rfl) (by kernel_rfl) (by kernel_rfl)
 ·refine lenC fun _=>Xb ?_;kernel_rfl
 ·intro x hx
  haveI:=all_eq_true.mp (show List.all _ (fun x:Str × NameKind=>!(x.2 == NameKind.cell))=true by kernel_rfl) x hx
  intro e;rw[e] at this;exact ftE this
 ·intro x hx;simp only[mem_singleton] at hx;subst hx;kernel_rfl
 intro L;refine EV.ife ?_;refine ET.val ?_;refine EV.capM (g:=a.gl) (by kernel_rfl) (c:=a.c) (by kernel_rfl) hcc ?_;refine TRU.cell hgl ?_ (by simpa using hs);cases t with
 | nil=>
  refine(if_neg (by decide)).mpr ?_;walk_at"vs";exact h0 rfl
 | cons c t'=>
  refine(if_pos (by simp)).mpr ?_;rw[map_cons,reverse_cons] at hgl;refine EV.meth "list" "list.pop" F.plainAttrs_list F.slot_list_pop F.type_list_pop ?_;refine EV.capM (g:=a.gl) (by kernel_rfl) (c:=a.c) (by kernel_rfl) hcc ?_;refine⟨TypeV.cell hgl,?_⟩;walk_at"vs";refine CALL.pop hgl (by rw[hm];walk_at"vum") ?_ (by simpa using hs);exact h1 c t' rfl
theorem sp_84(G:G3 X)(hA:Rm X.A (k + 2)){a:LxA}(hok:Ux X.w.params a){i:Int}{t:List Nat}{p:List V}{pre post:List (Addr × Cell)}(hm:B.mem=pre++Zp (qL X.w.params) a i t p++post)(hs:t.length ≤ sizeLine)
  (h0:t=[]->P (.str "") B) (h1:∀ c t',t=c::t'->P (one c) {B with mem:=pre++Zp (qL X.w.params) a (i + if c=10 then 1 else 0) t' p++post}):CALLR X (.ref 84) [.ref a.L] B P:=by
 refine CALLR.defG (ps:=["self"]) (loc:=[("self",some (.ref a.L)),("ch",none)]) (cel:=[]) (sub:=B.mem) (rest:=[]) G hA (o84 _) (o83 _) (f84 _) (b84 _) ?_ rfl ⟨rfl,trivial⟩ trivial (append_nil _).symm ?_
 ·refine lenC fun _=>Xb ?_;kernel_rfl
 intro L hR hh G';obtain⟨oScls,⟨fdS,oSd⟩,oSdict,hok'⟩:=id hok
 haveI hx:(a.L,Cell.raw (·=instObj 101 a.dx)) ∈ B.mem:=by rw[hm];walk_at"vm"
 haveI hd:(a.dx,Cell.ns (nsL a i)) ∈ B.mem:=by rw[hm];walk_at"vm"
 haveI hS:(a.S,Cell.raw (·=a.oS)) ∈ B.mem:=by rw[hm];walk_at"vm"
 haveI hDS:(a.DS,Cell.ns [("read",V.ref a.R)]) ∈ B.mem:=by rw[hm];walk_at"vm"
 haveI hRR:(a.R,Cell.raw (·=a.oR)) ∈ B.mem:=by rw[hm];walk_at"vm"
 obtain⟨nm,ctv,eR⟩:=hok'
 haveI hRd:a.oR.data=_:=congrArg Obj.data eR
 walk_at"vs";refine EV.methF (by rw[typeLookup_type,builtinLookup_eq_fast];kernel_rfl) ?_;refine EV.attrI 101 100 _ (Y7 G') (by kernel_rfl) (by kernel_rfl) (by rw[typeLookup_type,builtinLookup_eq_fast];kernel_rfl) ?_;walk_at"vs";refine⟨a.L,a.dx,nsL a i,.ref a.S,rfl,hx,hd,by walk_at"vm",(fun Z v hv=>by cases hv;exact handedOut_of rfl),?_⟩;refine⟨a.S,a.oS,fdS,a.DS,a.R,rfl,hS,oScls,oSd,oSdict,hDS,?_⟩;walk_at"vs";refine⟨Keep.mem hRR hRd,?_⟩;refine CALLR.call (sp_read (k:=k) G' hR hok hm hs ?_ ?_)
 ·intro ht;walk_at"vs";refine(if_neg (by decide)).mpr ?_;walk_at"vs";rw[append_nil];exact h0 ht
 ·intro c t' ht;subst ht;walk_at"vs"
  rw[show(Str.ofString "
")=⟨#[10]⟩ by rfl,X9]
  by_cases hc:c=10
  ·refine(if_pos (by simpa using hc)).mpr ?_;walk_at"vs";refine ES.augAttr ?_;walk_at"vs";refine⟨a.L,rfl,?_⟩;refine GA.inst 101 100 _ (Y7 G') (by kernel_rfl) (by kernel_rfl) (by rw[typeLookup_type,builtinLookup_eq_fast];kernel_rfl) (by walk_at"vm") (by walk_at"vm") (d':=.int i) (by walk_at"vm") (fun Z v hv=>by obtain⟨t,rfl⟩:=hv;rfl) ?_;walk_at"vs";refine SETA.inst 101 100 _ (Y7 G') (by kernel_rfl) (by kernel_rfl) (by rw[typeLookup_type,builtinLookup_eq_fast];kernel_rfl) (by walk_at"vm") (by walk_at"vm") (.hit (by simp only[List.map];decide +kernel)) (by walk_at"vum") (le_of_ble_eq_true rfl) ?_;walk_at"vs"
   haveI q:=h1 c t' rfl
   rw[if_pos hc] at q;rw[append_nil];exact q
  ·refine(if_neg (by simpa using hc)).mpr ?_;walk_at"vs"
   haveI q:=h1 c t' rfl
   rw[if_neg hc,add_zero] at q;rw[append_nil];exact q
end
end
section
noncomputable def wsB(c:Nat):Bool:=decide (c ∈ wsF.cps.toList)
noncomputable def Y8(st:Nat->Bool):List Nat->List Nat × List Nat
 | []=>([],[])
 | [c]=>if st c then ([],[]) else if c=92 then ([],[]) else ([c],[])
 | c::d::t=>if st c then ([],d::t) else if c=92 then (d::(Y8 st t).1,(Y8 st t).2) else (c::(Y8 st (d::t)).1,(Y8 st (d::t)).2)
noncomputable def Zf(t:List Nat):List Nat × List Nat:=match t.dropWhile wsB with
 | []=>([],[])
 | c::r=>if c=34 then Y8 (fun c=>c == 34) r else Y8 wsB (c::r)
theorem Ww{st:Nat->Bool}{c:Nat}{t:List Nat}(h:st c=true):Y8 st (c::t)=([],t):=by cases t <;> exact if_pos h
theorem R2{st:Nat->Bool}:(Y8 st [92])=([],[]):=ite_self _
theorem Vw{st:Nat->Bool}{d:Nat}{t:List Nat}(h:st 92=false):Y8 st (92::d::t)=(d::(Y8 st t).1,(Y8 st t).2):=(if_neg (by rw[h];exact Bool.false_ne_true)).trans (if_pos rfl)
theorem Vu{st:Nat->Bool}{c:Nat}{t:List Nat}(h:st c=false)(hc:c ≠ 92):Y8 st (c::t)=(c::(Y8 st t).1,(Y8 st t).2):=by cases t <;> exact(if_neg (by rw[h];exact Bool.false_ne_true)).trans (if_neg hc)
theorem Vv{st:Nat->Bool}:∀ t:List Nat,(Y8 st t).1.length + (Y8 st t).2.length ≤ t.length
 | []=>by exact zero_le _
 | [c]=>by unfold Y8;split <;> (try split) <;> simp
 | c::d::t=>by
  have h1:=Vv (st:=st) t;have h2:=Vv (st:=st) (d::t);unfold Y8;split
  ·simp
  ·split
   ·simp at h1 ⊢;exact le_trans (le_of_eq (succ_add ..)) (le_succ_of_le (succ_le_succ h1))
   ·simp at h2 ⊢;exact le_trans (le_of_eq (succ_add ..)) (succ_le_succ h2)
theorem O8{c:Nat}{t:List Nat}(h:wsB c=true):Zf (c::t)=Zf t:=by unfold Zf;rw[List.dropWhile_cons_of_pos h]
theorem Tm{t:List Nat}:Zf (34::t)=Y8 (fun c=>c == 34) t:=by unfold Zf;rw[List.dropWhile_cons_of_neg (by decide)];rfl
theorem Vh{c:Nat}{t:List Nat}(h:wsB c=false)(hc:c ≠ 34):Zf (c::t)=Y8 wsB (c::t):=by unfold Zf;rw[List.dropWhile_cons_of_neg (by simp[h])];exact if_neg (by assumption)
theorem U9(f:Nat->Bool):∀ t:List Nat,(t.dropWhile f).length ≤ t.length
 | []=>by exact zero_le _
 | c::t=>by
  have:=U9 f t
  by_cases h:f c=true
  ·rw[List.dropWhile_cons_of_pos h];simp <;> exact le_succ_of_le this
  ·rw[List.dropWhile_cons_of_neg h];exact le_refl _
set_option tactic.hygienic true in
theorem Vo(t:List Nat):(Zf t).1.length + (Zf t).2.length ≤ t.length:=by
 unfold Zf;have h:=U9 wsB t;split
 ·simp
 ·rename_i c r e;rw[e] at h;simp at h;split
  ·have:=Vv (st:=fun c=>c == 34) r;exact le_trans this (le_of_succ_le h)
  ·have:=Vv (st:=wsB) (c::r);simp at this;exact(le_trans this h)
noncomputable def tx(l:List Nat):Str:=⟨l.toArray⟩
theorem Uf(l:List Nat):(tx l).length=l.length:=by rfl
theorem Ug(l:List Nat)(c:Nat):tx l++⟨#[c]⟩=tx (l++[c]):=by
 show(Str.mk _)=_;unfold tx;simp
theorem P1(l:List Nat):tx l++ "" =tx l:=by
 unfold tx;congr 1
theorem Zx(c:Nat)(t:List Nat):nl (c::t)=(if c=10 then 1 else 0) + nl t:=by
 unfold nl;rw[count_cons]
 by_cases h:c=10
 ·subst h;exact add_comm (List.count 10 t:Int) 1
 ·rw[if_neg h,if_neg fun q=>h (eq_of_beq q)];exact(Int.zero_add _).symm
section
variable{X:Cx}{B:St}{k:Nat}
theorem S6{P:Option V->St->Prop}(G:G3 X)(hA:Rm X.A (k + 3)){a:LxA}(hok:Ux X.w.params a){i:Int}{t:List Nat}{p:List V}{pre post:List (Addr × Cell)}{b I:Addr}
  (hm:B.mem=pre++Zp (qL X.w.params) a i t p++(post++[(b,.raw (·=methodObj (.ref 84) (.ref a.L))),(I,.raw (Xp b))])) (hs:t.length ≤ sizeLine)
  (h0:t=[]->P Option.none {B with mem:=pre++Zp (qL X.w.params) a i [] p++(post++[(b,.raw (·=methodObj (.ref 84) (.ref a.L))),(I,.raw U4)])})
  (h1:∀ c t',t=c::t'->P (some (one c)) {B with mem:=pre++Zp (qL X.w.params) a (i + if c=10 then 1 else 0) t' p++(post++[(b,.raw (·=methodObj (.ref 84) (.ref a.L))),(I,.raw (Xp b))])}):NEXT X I B P:=by
 have hb:(b,Cell.raw (·=methodObj (.ref 84) (.ref a.L))) ∈ B.mem:=by rw[hm];walk_at"vm"
 have hI:(I,Cell.raw (Xp b)) ∈ B.mem:=by rw[hm];walk_at"vm"
 refine NEXT.call hA hI hb (G.K _ _ (o84 _).2) (f84 X.w.params).2 (Y6 (n:= "function") (by kernel_rfl)) fun A' hA'=>?_;have G':G3 (X.at A'):=⟨G.K0,G.lim,G.b,G.g⟩
 refine sp_84 (k:=k) G' hA' hok hm hs (fun ht=>?_) fun c t' ht=>?_
 ·refine⟨_,rfl,hI,hb,fun h=>absurd rfl h,fun _=>⟨_,by rw[hm];walk_at"vum",?_⟩⟩;subst ht;exact h0 rfl
 ·refine⟨_,rfl,by walk_at"vm",by walk_at"vm",fun _=>h1 c t' ht,fun h=>?_⟩;exact absurd (congrArg (fun x:Str=>x.cps.size) h) (by simp;decide)
variable{P:V->St->Prop}
noncomputable abbrev X5(X:Cx)(a:LxA)(b I:Addr)(pre post:List (Addr × Cell))(acc t':List Nat)(x:Option V)(i':Int)(it:Obj->Prop):St:=⟨[("self",some (.ref a.L)),("token",some (.str (tx acc))),("fiter",some (.ref I)),("ch",x)],[],[],pre++Zp (qL X.w.params) a i' t' []++(post++[(b,.raw (·=methodObj (.ref 84) (.ref a.L))),(I,.raw it)])⟩
section
variable{X:Cx}{a:LxA}{b I:Addr}{pre post:List (Addr × Cell)}{t:List Nat}{i:Int}{st:Nat->Bool}{n N:Nat}{B:St}
noncomputable def lexI(X:Cx)(a:LxA)(b I:Addr)(pre post:List (Addr × Cell))(t:List Nat)(i:Int)(st:Nat->Bool)(n:Nat)(B:St):Prop:=∃ acc t1 x i1,n=t1.length + 1 /\ B=X5 X a b I pre post acc t1 x i1 (Xp b) /\ Zf t=(acc++(Y8 st t1).1,(Y8 st t1).2) /\ i1=i + nl t - nl t1 /\ t1.length + 1 ≤ t.length
theorem lexI.to{acc t1:List Nat}{x:Option V}{i1:Int}(hn:t1.length + 1 < N)(e:Zf t=(acc++(Y8 st t1).1,(Y8 st t1).2))(hi:i1=i + nl t - nl t1)(hl:t1.length + 1 ≤ t.length):∃ n,n < N /\ lexI X a b I pre post t i st n (X5 X a b I pre post acc t1 x i1 (Xp b)):=⟨_,hn,_,_,_,_,rfl,rfl,e,hi,hl⟩
theorem lexI.out{p:Nat->St->Prop}(k:∀ acc t1 x i1,Zf t=(acc++(Y8 st t1).1,(Y8 st t1).2)->i1=i + nl t - nl t1->t1.length + 1 ≤ t.length->p (t1.length + 1) (X5 X a b I pre post acc t1 x i1 (Xp b))):∀ n B,lexI X a b I pre post t i st n B->p n B:=fun n B h=>by
 obtain⟨acc,t1,x,i1,rfl,rfl,e,hi,hl⟩:=h;exact k _ _ _ _ e hi hl
noncomputable def lexJ(X:Cx)(a:LxA)(b I:Addr)(pre post:List (Addr × Cell))(t:List Nat)(i:Int)(n:Nat)(B:St):Prop:=(∃ t' x i',n=t'.length + 1 /\ B=X5 X a b I pre post [] t' x i' (Xp b) /\ Zf t'=Zf t /\ i'=i + nl t - nl t' /\ t'.length ≤ t.length) \/ (∃ acc x i',n=0 /\ B=X5 X a b I pre post acc [] x i' U4 /\ Zf t=(acc,[]) /\ i'=i + nl t)
theorem lexJ.to{t':List Nat}{x:Option V}{i':Int}(hn:t'.length + 1 < N)(e:Zf t'=Zf t)(hi:i'=i + nl t - nl t')(hl:t'.length ≤ t.length):∃ n,n < N /\ lexJ X a b I pre post t i n (X5 X a b I pre post [] t' x i' (Xp b)):=⟨_,hn,.inl ⟨_,_,_,rfl,rfl,e,hi,hl⟩⟩
theorem lexJ.fin{acc:List Nat}{x:Option V}{i':Int}(e:Zf t=(acc,[]))(hi:i'=i + nl t):∃ n,n < N + 1 /\ lexJ X a b I pre post t i n (X5 X a b I pre post acc [] x i' U4):=⟨0,succ_pos _,.inr ⟨_,_,_,rfl,rfl,e,hi⟩⟩
theorem lexJ.out{p:Nat->St->Prop}(k1:∀ t' x i',Zf t'=Zf t->i'=i + nl t - nl t'->t'.length ≤ t.length->p (t'.length + 1) (X5 X a b I pre post [] t' x i' (Xp b)))
  (k2:∀ acc x i',Zf t=(acc,[])->i'=i + nl t->p 0 (X5 X a b I pre post acc [] x i' U4)):∀ n B,lexJ X a b I pre post t i n B->p n B:=fun n B h=>by
 rcases h with⟨t',x,i',rfl,rfl,hT,hi,hl⟩ | ⟨acc,x,i',rfl,rfl,hT,hi⟩
 ·exact k1 _ _ _ hT hi hl
 ·exact k2 _ _ _ hT hi
end
noncomputable def forW(P:Params):Stmt:=Rh (Q6 (Rh (Q6 (Rh (b91 P).1 3)).1 1)).2.1 2
noncomputable def forQ(P:Params):Stmt:=Rh (Q6 (Rh (Q6 (Rh (b91 P).1 3)).1 1)).1 0
theorem Mv(G:G3 X)(hA:Rm X.A (k + 5)){a:LxA}(hok:Ux X.w.params a){L b I:Addr}{t:List Nat}{i:Int}{pre post:List (Addr × Cell)}(hs:t.length ≤ sizeLine){K:Fl->St->Prop}{acc0 t2:List Nat}{x0:Option V}{i0:Int}
  (e0:Zf t=(acc0++(Y8 wsB t2).1,(Y8 wsB t2).2)) (hi0:i0=i + nl t - nl t2) (hl0:t2.length + 1 ≤ t.length)
  (kn:∀ acc x i',Zf t=(acc,[])->i'=i + nl t->K .next (X5 X a b I pre post acc [] x i' U4))
  (kr:∀ acc r x i',Zf t=(acc,r)->i'=i + nl t - nl r->K (.ret (.str (tx acc))) (X5 X a b I pre post acc r x i' (Xp b))):
  ES (X.callee (f91 X.w.params).1 L 91) (forW X.w.params) (X5 X a b I pre post acc0 t2 x0 i0 (Xp b)) K:=by
 have hR:Rm (X.callee (f91 X.w.params).1 L 91).A (k + 4):=hA.deeper;have hh:(X.callee (f91 X.w.params).1 L 91).A.handled=none:=hR.handled;have G':G3 (X.callee (f91 X.w.params).1 L 91):=G.callee;have tl:=Vo t;refine ES.forI ?_;walk_at"vs";refine⟨I,rfl,.inl ⟨b,by walk_at"vm"⟩,lexI X a b I pre post t i wsB,⟨_,acc0,t2,_,_,rfl,rfl,e0,hi0,hl0⟩,?_⟩;refine lexI.out fun acc1 t1 x1 i1 e1 hi1 hl1=>?_;refine S6 (k:=k + 1) G' hR hok rfl (by exact le_trans (le_of_succ_le hl1) hs) ?_ ?_
 ·intro ht;subst ht;refine⟨.inr (by walk_at"vm"),?_⟩;walk_at"vs";exact kn acc1 _ _ (by simpa [Y8] using e1) (by rw[hi1];exact sub_zero _)
 ·intro c1 t4 ht;subst ht;refine⟨.inl ⟨b,by walk_at"vm"⟩,?_⟩;walk_at"vs";refine EV.attrI 101 100 _ (Y7 G') (by kernel_rfl) (by kernel_rfl) (by rw[typeLookup_type,builtinLookup_eq_fast];kernel_rfl) ?_;walk_at"vs";refine⟨a.L,a.dx,nsL a _,.str wsF,rfl,by walk_at"vm",by walk_at"vm",by walk_at"vm",(fun Z v hv=>by obtain⟨t,rfl⟩:=hv;rfl),?_⟩;refine CMP.inS ?_;walk_at"vs"
  by_cases hs1:wsB c1=true
  ·refine(if_pos (show decide (c1 ∈ wsF.cps.toList)=true from hs1)).mpr ?_;walk_at"vs";rw[Ww (st:=wsB) hs1] at e1;exact kr acc1 t4 _ _ (by simpa using e1) (by rw[hi1,Zx];exact Yc ..)
  have hs1':wsB c1=false:=by simpa using hs1
  refine(if_neg (show ¬ decide (c1 ∈ wsF.cps.toList)=true from hs1)).mpr ?_;walk_at"vs"
  first | rw[X9] | rw[show Str.ofString "\\" =⟨#[92]⟩ by rfl,X9]
  by_cases h92:c1=92
  ·refine(if_pos (by exact if_pos (by assumption))).mpr ?_;subst h92;walk_at"vs";refine EV.methU (y:=Option.none) 101 100 _ 84 (Y7 G') (by kernel_rfl) (by kernel_rfl) (by kernel_rfl) (G'.K _ _ (o84 _).2) (by kernel_rfl) (by rw[typeLookup_type,builtinLookup_eq_fast];kernel_rfl) ?_;walk_at"vs";refine⟨a.L,a.dx,nsL a _,rfl,by walk_at"vm",by walk_at"vm",(by simp only[List.map];decide +kernel),?_⟩;walk_at"vs";refine⟨Keep.func (G'.K _ _ (o84 _).2) (f84 X.w.params).2 (Y6 (n:= "function") (by kernel_rfl)),?_⟩;refine CALLR.call (sp_84 (k:=k) G' (hR.le (by simp)) hok rfl (by simp at hl1;exact le_trans (le_of_succ_le (le_of_succ_le hl1)) hs) ?_ ?_)
   ·intro ht;subst ht;rw[R2] at e1;walk_at"vs";refine INP.adds ?_ (by have:=Uf acc1;rw[e1] at tl;simp at tl;rw[this];exact(le_trans (le_trans (add_le_add_right tl _) (add_le_add_right hs _)) (by decide)));refine pq (by rw[P1]) ?_;walk_at"vs";exact lexI.to (acc:=acc1) (t1:=[]) (by exact le_add_left ..) (by exact e1) (by rw[hi1,Zx];simp <;> omega) (by simp at hl1 ⊢;exact(le_of_lt (lt_of_lt_of_le (by decide) hl1)))
   ·intro d t5 ht;subst ht;rw[Vw (st:=wsB) hs1'] at e1;walk_at"vs";refine INP.adds ?_ (by have:=Uf acc1;rw[e1] at tl;simp at tl;rw[this];exact le_trans (Th tl) hs);refine pq (by rw[Ug]) ?_;walk_at"vs";exact lexI.to (acc:=acc1++[d]) (t1:=t5) (by exact le_add_right ..) (by simpa using e1) (by rw[hi1,Zx,Zx];simp <;> exact Yc ..) (by simp at hl1 ⊢;exact le_of_succ_le (le_of_succ_le hl1))
  ·refine(if_neg (by simpa using h92)).mpr ?_;rw[Vu (st:=wsB) hs1' h92] at e1;walk_at"vs";refine INP.adds ?_ (by have:=Uf acc1;rw[e1] at tl;simp at tl;rw[this];exact le_trans (Th tl) hs);refine pq (by rw[Ug]) ?_;walk_at"vs";exact lexI.to (acc:=acc1++[c1]) (t1:=t4) (by exact le_refl _) (by simpa using e1) (by rw[hi1,Zx];exact Yc ..) (by simp at hl1 ⊢;exact le_of_succ_le hl1)
theorem Gp(G:G3 X)(hA:Rm X.A (k + 5)){a:LxA}(hok:Ux X.w.params a){L b I:Addr}{t:List Nat}{i:Int}{pre post:List (Addr × Cell)}(hs:t.length ≤ sizeLine){K:Fl->St->Prop}{acc0 t2:List Nat}{x0:Option V}{i0:Int}
  (e0:Zf t=(acc0++(Y8 (fun c:Nat=>c == 34) t2).1,(Y8 (fun c:Nat=>c == 34) t2).2)) (hi0:i0=i + nl t - nl t2) (hl0:t2.length + 1 ≤ t.length)
  (kn:∀ acc x i',Zf t=(acc,[])->i'=i + nl t->K .next (X5 X a b I pre post acc [] x i' U4))
  (kr:∀ acc r x i',Zf t=(acc,r)->i'=i + nl t - nl r->K (.ret (.str (tx acc))) (X5 X a b I pre post acc r x i' (Xp b))):
  ES (X.callee (f91 X.w.params).1 L 91) (forQ X.w.params) (X5 X a b I pre post acc0 t2 x0 i0 (Xp b)) K:=by
 have hR:Rm (X.callee (f91 X.w.params).1 L 91).A (k + 4):=hA.deeper;have hh:(X.callee (f91 X.w.params).1 L 91).A.handled=none:=hR.handled;have G':G3 (X.callee (f91 X.w.params).1 L 91):=G.callee;have tl:=Vo t;refine ES.forI ?_;walk_at"vs";refine⟨I,rfl,.inl ⟨b,by walk_at"vm"⟩,lexI X a b I pre post t i (fun c:Nat=>c == 34),⟨_,acc0,t2,_,_,rfl,rfl,e0,hi0,hl0⟩,?_⟩;refine lexI.out fun acc1 t1 x1 i1 e1 hi1 hl1=>?_;refine S6 (k:=k + 1) G' hR hok rfl (by exact le_trans (le_of_succ_le hl1) hs) ?_ ?_
 ·intro ht;subst ht;refine⟨.inr (by walk_at"vm"),?_⟩;walk_at"vs";exact kn acc1 _ _ (by simpa [Y8] using e1) (by rw[hi1];exact sub_zero _)
 ·intro c1 t4 ht;subst ht;refine⟨.inl ⟨b,by walk_at"vm"⟩,?_⟩;walk_at"vs"
  first | rw[X9] | rw[show Str.ofString "\"" =⟨#[34]⟩ by rfl,X9]
  by_cases hs1:(fun c:Nat=>c == 34) c1=true
  ·refine(if_pos (by exact hs1)).mpr ?_;walk_at"vs";rw[Ww (st:=(fun c:Nat=>c == 34)) hs1] at e1;exact kr acc1 t4 _ _ (by simpa using e1) (by rw[hi1,Zx];exact Yc ..)
  have hs1':(fun c:Nat=>c == 34) c1=false:=by simpa using hs1
  refine(if_neg (by exact hs1)).mpr ?_;walk_at"vs"
  first | rw[X9] | rw[show Str.ofString "\\" =⟨#[92]⟩ by rfl,X9]
  by_cases h92:c1=92
  ·refine(if_pos (by exact if_pos (by assumption))).mpr ?_;subst h92;walk_at"vs";refine EV.methU (y:=Option.none) 101 100 _ 84 (Y7 G') (by kernel_rfl) (by kernel_rfl) (by kernel_rfl) (G'.K _ _ (o84 _).2) (by kernel_rfl) (by rw[typeLookup_type,builtinLookup_eq_fast];kernel_rfl) ?_;walk_at"vs";refine⟨a.L,a.dx,nsL a _,rfl,by walk_at"vm",by walk_at"vm",(by simp only[List.map];decide +kernel),?_⟩;walk_at"vs";refine⟨Keep.func (G'.K _ _ (o84 _).2) (f84 X.w.params).2 (Y6 (n:= "function") (by kernel_rfl)),?_⟩;refine CALLR.call (sp_84 (k:=k) G' (hR.le (by simp)) hok rfl (by simp at hl1;exact le_trans (le_of_succ_le (le_of_succ_le hl1)) hs) ?_ ?_)
   ·intro ht;subst ht;rw[R2] at e1;walk_at"vs";refine INP.adds ?_ (by have:=Uf acc1;rw[e1] at tl;simp at tl;rw[this];exact(le_trans (le_trans (add_le_add_right tl _) (add_le_add_right hs _)) (by decide)));refine pq (by rw[P1]) ?_;walk_at"vs";exact lexI.to (acc:=acc1) (t1:=[]) (by exact le_add_left ..) (by exact e1) (by rw[hi1,Zx];simp <;> omega) (by simp at hl1 ⊢;exact(le_of_lt (lt_of_lt_of_le (by decide) hl1)))
   ·intro d t5 ht;subst ht;rw[Vw (st:=(fun c:Nat=>c == 34)) hs1'] at e1;walk_at"vs";refine INP.adds ?_ (by have:=Uf acc1;rw[e1] at tl;simp at tl;rw[this];exact le_trans (Th tl) hs);refine pq (by rw[Ug]) ?_;walk_at"vs";exact lexI.to (acc:=acc1++[d]) (t1:=t5) (by exact le_add_right ..) (by simpa using e1) (by rw[hi1,Zx,Zx];simp <;> exact Yc ..) (by simp at hl1 ⊢;exact le_of_succ_le (le_of_succ_le hl1))
  ·refine(if_neg (by simpa using h92)).mpr ?_;rw[Vu (st:=(fun c:Nat=>c == 34)) hs1' h92] at e1;walk_at"vs";refine INP.adds ?_ (by have:=Uf acc1;rw[e1] at tl;simp at tl;rw[this];exact le_trans (Th tl) hs);refine pq (by rw[Ug]) ?_;walk_at"vs";exact lexI.to (acc:=acc1++[c1]) (t1:=t4) (by exact le_refl _) (by simpa using e1) (by rw[hi1,Zx];exact Yc ..) (by simp at hl1 ⊢;exact le_of_succ_le hl1)
theorem sp_91(G:G3 X)(hA:Rm X.A (k + 5)){a:LxA}(hok:Ux X.w.params a){i:Int}{t:List Nat}{p:List V}{pre post:List (Addr × Cell)}(hm:B.mem=pre++Zp (qL X.w.params) a i t p++post)(hs:t.length ≤ sizeLine)(hsp:p.length ≤ sizeLine)
  (h0:p=[]->P (.str (tx (Zf t).1)) {B with mem:=pre++Zp (qL X.w.params) a (i + nl t - nl (Zf t).2) (Zf t).2 []++post})
  (h1:∀ d p',p=d::p'->P d {B with mem:=pre++Zp (qL X.w.params) a i t p'++post}):CALL X (.ref 91) [.ref a.L] B P:=by
 refine CALLR.call (CALLR.defG (ps:=["self"]) (loc:=[("self",some (.ref a.L)),("token",none),("fiter",none),("ch",none)]) (cel:=[]) (sub:=B.mem) (rest:=[]) G hA (o91 _) (o90 _) (f91 _) (b91 _) ?_ rfl ⟨rfl,trivial⟩ trivial (append_nil _).symm ?_)
 ·refine lenC fun _=>Xb ?_;kernel_rfl
 intro L hR hh G';refine EX.drop ?_;have hx:(a.L,Cell.raw (·=instObj 101 a.dx)) ∈ B.mem:=by rw[hm];walk_at"vm"
 have hd:(a.dx,Cell.ns (nsL a i)) ∈ B.mem:=by rw[hm];walk_at"vm"
 have hpb:(a.pb,Cell.list p) ∈ B.mem:=by rw[hm];walk_at"vm"
 walk_at"vs";refine EV.attrI 101 100 _ (Y7 G') (by kernel_rfl) (by kernel_rfl) (by rw[typeLookup_type,builtinLookup_eq_fast];kernel_rfl) ?_;walk_at"vs";refine⟨a.L,a.dx,nsL a i,.ref a.pb,rfl,hx,hd,by walk_at"vm",(fun Z v hv=>by cases hv;exact handedOut_of rfl),?_⟩;refine TRU.cell hpb ?_ hsp;cases p with
 | cons d p'=>
  refine(if_pos (by simp)).mpr ?_;walk_at"vs";refine EV.meth "list" "list.pop" F.plainAttrs_list F.slot_list_pop F.type_list_pop ?_;refine EV.attrI 101 100 _ (Y7 G') (by kernel_rfl) (by kernel_rfl) (by rw[typeLookup_type,builtinLookup_eq_fast];kernel_rfl) ?_;walk_at"vs";refine⟨a.L,a.dx,nsL a i,.ref a.pb,rfl,hx,hd,by walk_at"vm",(fun Z v hv=>by cases hv;exact handedOut_of rfl),?_⟩;refine⟨TypeV.cell hpb,?_⟩;walk_at"vs";refine CALL.pop0 hpb (by rw[hm];walk_at"vum") ?_ (by simpa using hsp);walk_at"vs";refine⟨_,List.Sublist.refl _,?_⟩;rw[append_nil];exact h1 d p' rfl
 | nil=>
  refine(if_neg (by simp)).mpr ?_;walk_at"vs";refine EV.call ?_;walk_at"vs";refine⟨_,(fun Z v h=>h),?_⟩;walk_at"vs";refine EV.attrB (y:=Option.none) 101 100 _ 84 (Y7 G') (by kernel_rfl) (by kernel_rfl) (by kernel_rfl) (G'.K _ _ (o84 _).2) (by kernel_rfl) (by rw[typeLookup_type,builtinLookup_eq_fast];kernel_rfl) (by kernel_rfl) ?_;walk_at"vs";refine⟨a.L,a.dx,nsL a i,rfl,hx,hd,by simp only[List.map];decide +kernel,fun b=>?_⟩;walk_at"vs";refine⟨Keep.builtin,?_⟩;refine CALL.iter2 (by walk_at"vm") fun I=>?_;walk_at"vs";have hmem:B.mem++[(b,Cell.raw (·=methodObj (.ref 84) (.ref a.L)))]++[(I,Cell.raw (Xp b))]=pre++Zp (qL X.w.params) a i t []++(post++[(b,.raw (·=methodObj (.ref 84) (.ref a.L))),(I,.raw (Xp b))]):=by rw[hm];exact(append_assoc (pre++_++post) _ _).trans (append_assoc (pre++_) post _)
  rw[hmem]
  have fin:∀ (acc r:List Nat) (i':Int) (tail:List (Addr × Cell)),Zf t=(acc,r)->i'=i + nl t - nl r->∃ m,m.Sublist (pre++Zp (qL X.w.params) a i' r []++(post++tail)) /\ P (.str (tx acc)) {B with mem:=m++[]}:=by
   intro acc r i' tail e1 e2;refine⟨pre++Zp (qL X.w.params) a i' r []++post,List.Sublist.append (List.Sublist.refl _) (List.sublist_append_left _ _),?_⟩;have:=h0 rfl;rw[e1] at this;rw[append_nil,e2];exact this
  have tl:=Vo t;refine ES.forI ?_;walk_at"vs";refine⟨I,rfl,.inl ⟨b,by walk_at"vm"⟩,lexJ X a b I pre post t i,⟨t.length + 1,.inl ⟨t,Option.none,i,rfl,rfl,rfl,by simp,le_refl _⟩⟩,?_⟩;refine lexJ.out (fun t' x i' hT hi hl=>?_) fun acc x i' hT hi=>?_
  ·refine S6 (k:=k + 1) G' hR hok rfl (le_trans hl hs) ?_ ?_
   ·intro ht;subst ht;refine⟨.inr (by walk_at"vm"),?_⟩;walk_at"vs";exact fin [] [] i' _ hT.symm hi
   ·intro c t2 ht;subst ht;refine⟨.inl ⟨b,by walk_at"vm"⟩,?_⟩;walk_at"vs";refine EV.attrI 101 100 _ (Y7 G') (by kernel_rfl) (by kernel_rfl) (by rw[typeLookup_type,builtinLookup_eq_fast];kernel_rfl) ?_;walk_at"vs";refine⟨a.L,a.dx,nsL a _,.str wsF,rfl,by walk_at"vm",by walk_at"vm",by walk_at"vm",(fun Z v hv=>by obtain⟨t,rfl⟩:=hv;rfl),?_⟩;refine CMP.inS ?_;walk_at"vs"
    by_cases hw:wsB c=true
    ·refine(if_pos (show decide (c ∈ wsF.cps.toList)=true from hw)).mpr ?_;walk_at"vs";exact lexJ.to (by simp) (by rw[<- hT,O8 hw]) (by rw[hi,Zx];exact Yc ..) (by simp at hl;exact le_of_succ_le hl)
    have hw':wsB c=false:=by simpa using hw
    refine(if_neg (show ¬ decide (c ∈ wsF.cps.toList)=true from hw)).mpr ?_;walk_at"vs"
    first | rw[X9] | rw[show Str.ofString "\"" =⟨#[34]⟩ by rfl,X9]
    have hl2:t2.length + 1 ≤ t.length:=by simpa using hl
    by_cases h34:c=34
    ·refine(if_pos (by simpa using h34)).mpr ?_;subst h34;rw[Tm] at hT;walk_at"vs";refine Gp (k:=k) (i:=i) (t:=t) G hA hok hs (acc0:=[]) (t2:=t2) (by rw[<- hT];rfl) (by rw[hi,Zx];exact Yc ..) (by assumption) (fun acc x i1 e1 e2=>?_) (fun acc r x i1 e1 e2=>?_)
     ·walk_at"vs";exact lexJ.fin e1 e2
     ·walk_at"vs";exact fin acc r _ _ e1 e2
    ·refine(if_neg (by simpa using h34)).mpr ?_;rw[Vh hw' h34] at hT;walk_at"vs"
     first | rw[X9] | rw[show Str.ofString "\\" =⟨#[92]⟩ by rfl,X9]
     by_cases h92:c=92
     ·refine(if_pos (by simpa using h92)).mpr ?_;subst h92;walk_at"vs";refine EV.methU (y:=Option.none) 101 100 _ 84 (Y7 G') (by kernel_rfl) (by kernel_rfl) (by kernel_rfl) (G'.K _ _ (o84 _).2) (by kernel_rfl) (by rw[typeLookup_type,builtinLookup_eq_fast];kernel_rfl) ?_;walk_at"vs";refine⟨a.L,a.dx,nsL a _,rfl,by walk_at"vm",by walk_at"vm",(by simp only[List.map];decide +kernel),?_⟩;walk_at"vs";refine⟨Keep.func (G'.K _ _ (o84 _).2) (f84 X.w.params).2 (Y6 (n:= "function") (by kernel_rfl)),?_⟩;refine CALLR.call (sp_84 (k:=k) G' (hR.le (by simp)) hok rfl (by exact le_trans (le_of_succ_le hl2) hs) ?_ ?_)
      ·intro ht;subst ht;walk_at"vs";refine INP.adds ?_ (le_of_ble_eq_true rfl);refine pq (by rw[P1]) ?_;walk_at"vs";refine Mv (k:=k) (i:=i) (t:=t) G hA hok hs (acc0:=[]) (t2:=[]) (by rw[<- hT];rfl) (by rw[hi,Zx];exact Yc ..) (by simp <;> assumption) (fun acc x i1 e1 e2=>?_) (fun acc r x i1 e1 e2=>?_)
       ·walk_at"vs";exact lexJ.fin e1 e2
       ·walk_at"vs";exact fin acc r _ _ e1 e2
      ·intro d t3 ht;subst ht;walk_at"vs";refine INP.adds ?_ (le_of_ble_eq_true rfl);refine pq (by rw[Ug]) ?_;walk_at"vs";refine Mv (k:=k) (i:=i) (t:=t) G hA hok hs (acc0:=[d]) (t2:=t3) (by rw[<- hT,Vw hw'];rfl) (by rw[hi,Zx,Zx];simp <;> exact Yc ..) (by simp at hl2;exact le_of_succ_le hl2) (fun acc x i1 e1 e2=>?_) (fun acc r x i1 e1 e2=>?_)
       ·walk_at"vs";exact lexJ.fin e1 e2
       ·walk_at"vs";exact fin acc r _ _ e1 e2
     ·refine(if_neg (by simpa using h92)).mpr ?_;walk_at"vs";refine INP.adds ?_ (le_of_ble_eq_true rfl);refine pq (by rw[Ug]) ?_;walk_at"vs";refine Mv (k:=k) (i:=i) (t:=t) G hA hok hs (acc0:=[c]) (t2:=t2) (by rw[<- hT,Vu hw' h92];rfl) (by rw[hi,Zx];exact Yc ..) (by assumption) (fun acc x i1 e1 e2=>?_) (fun acc r x i1 e1 e2=>?_)
      ·walk_at"vs";exact lexJ.fin e1 e2
      ·walk_at"vs";exact fin acc r _ _ e1 e2
  ·refine NEXT.ended hh (by walk_at"vm") ?_;refine⟨.inr (by walk_at"vm"),?_⟩;walk_at"vs";exact fin acc [] i' _ hT (by rw[hi];simp[nl])
end
end
section
section
variable{X:Cx}{B:St}{k:Nat}{P:V->St->Prop}
theorem Hp(G:G3 X)(hA:Rm X.A (k + 1 + 1)){d:V}(h:∀ x dx,P (.ref x) {B with mem:=B.mem++[(x,Cell.raw (·=instObj 38 dx)),(dx,Cell.ns [("comp_select_list",d)])]}):CALL X (.ref 38) [d] B P:=by
 refine CALL.make (fI:=28) (J8 G) (by kernel_rfl) (by kernel_rfl) (by kernel_rfl) hA fun A' x dx hA'=>?_
 haveI G':G3 (X.at A'):=⟨G.K0,G.lim,G.b,G.g⟩
 exact sp_28 (m:=B.mem) G' hA' rfl ⟨rfl,h x dx⟩
theorem EV.call38(G:G3 X){x p1 args pos}(hx:(x,V.ref 38) ∈ GN)(h:EVs X pos args B fun ds B2=>CALL X (.ref 38) ds B2 P)
  (hg:X.env.globals=mainGlobals:=by rfl) (hk:X.env.kindOf x=some .globalImplicit:=by kernel_rfl) (hd:(x == ("__debug__" :Str))=false:=by kernel_rfl)
  (hp:∀ env,(starEach args env).any (·.1)=false:=by intro _;rfl)
  (he:∀ env,eval (.Call (.Name x p1) args [] pos) env=(do callWith pos (<- eval (.Name x p1) env) [] (backTo pos (starEach args env)) (backToKw pos (keywordEach [] env))):=by intro _;rfl):EV X (.Call (.Name x p1) args [] pos) B P:=
 EV.call (G.name hx ⟨.ref 38,fun _ _ h=>h,J.mono h fun ds B2 hc=>⟨Keep.cls (J8 G) (by kernel_rfl),hc⟩⟩ hg hk hd) hp he
end
end
section
noncomputable def Oh:List Stmt->Option (Str × Arguments × List Stmt × Scope)
 | []=>none
 | [s]=>some (fdN s,fdA s,fdB s,fdS s)
 | _::l=>Oh l
noncomputable def Mm:{x:Str × Arguments × List Stmt × Scope // Oh PySem.Challenge.pw_wz0015_01.main.body=some x}:=⟨(_,_,_,_),rfl⟩
noncomputable def Y4(pm cd doc dV kV:Value):FuncData:={Calls.docDef Mm.1.1 Mm.1.2.1 Mm.1.2.2.1 Mm.1.2.2.2 pm cd doc with defaults:=dV,kwdefaults:=kV}
noncomputable abbrev lawB:List Stmt:=Mm.1.2.2.1
noncomputable def Lz(P:Params):{o:Obj // (K3 P).lookup 106=some o}:=⟨Gj P,by kernel_rfl⟩
noncomputable def Sc(P:Params):{e:Array DictEntry × Nat // (Lz P).1.data=.dict e.1 e.2}:=⟨(_,_),rfl⟩
noncomputable def ettK:List Str:=["!", "!=", "%", "%=", "&", "&=", "(", ")", "*", "**", "**=", "*=", "+", "+=", ",", "-", "-=", "->", ".", "...", "/", "//", "//=", "/=", ":", ":=", ";", "<", "<<", "<<=", "<=", "=", "==", ">", ">=", ">>", ">>=", "@", "@=", "[", "]", "^", "^=", "{", "|", "|=", "}", "~"].map Str.ofString
noncomputable def ettV:List Int:=[54,28,24,40,19,41,7,8,16,35,46,38,14,36,12,15,37,51,23,52,17,47,48,39,11,53,13,20,33,44,29,22,27,21,30,34,45,49,50,9,10,32,43,25,18,42,26,31]
structure EttE where
 (s:Str) (ks:Tok) (i:Int) (vt:Tok)
noncomputable def EttE.of(e:DictEntry):EttE:=⟨match e.key with | .str s _=>s | _=> "",match e.key with | .str _ t=>t | _=>0,match e.val with | .int i _=>i | _=>0,match e.val with | .int _ t=>t | _=>0⟩
noncomputable def EttE.entry(P:Params)(t:EttE):DictEntry:=⟨PyData.keyHash P t.s,.str t.s t.ks,.int t.i t.vt⟩
theorem Iu(P:Params):(Sc P).1.1.toList=((Sc P).1.1.toList.map EttE.of).map (EttE.entry P):=by kernel_rfl
theorem It(P:Params):((Sc P).1.1.toList.map EttE.of).map (·.s)=ettK:=by kernel_rfl
theorem Is(P:Params):((Sc P).1.1.toList.map EttE.of).map (·.i)=ettV:=by kernel_rfl
theorem Pp:ettK.Nodup:=by decide +kernel
theorem Om:ettK.length=48:=by decide +kernel
theorem Iv:∀ s ∈ ettK,(vat ettK ettV s).isSome:=by decide +kernel
theorem R9{prog:Program}{w:World}:∀ T:List EttE,Pairs (PySem.strKind prog w) (T.map (EttE.entry w.params)) (T.map fun t=>(t.s,Value.int t.i t.vt))
 | []=>.nil
 | t::T=>.cons (by exact beq_self_eq_true _) rfl (R9 T)
theorem Ol{prog:Program}{w:World}{Z:ZM}:∀ T:List EttE,VsRel prog w Z ((T.map (·.i)).map V.int) (T.map fun t=>Value.int t.i t.vt)
 | []=>rfl
 | t::T=>⟨_,_,rfl,⟨t.vt,rfl⟩,Ol T⟩
theorem Wb{α β γ:Type}(f:α->β)(g:α->γ):∀ T:List α,(T.map f).zip (T.map g)=T.map fun t=>(f t,g t)
 | []=>rfl
 | t::T=>by simp[Wb f g T]
section
variable{X:Cx}{B:St}{k:Nat}{P:V->St->Prop}
theorem EV.ett(G:G3 X){pos}(h:P (.sdict ettK (ettV.map V.int)) B)(hg:X.env.globals=mainGlobals:=by rfl)(hk:X.env.kindOf "EXACT_TOKEN_TYPES" =some .globalImplicit:=by kernel_rfl):EV X (.Name "EXACT_TOKEN_TYPES" pos) B P:=fun Z s r=>by
 haveI h0:EV X (.Name "EXACT_TOKEN_TYPES" pos) B (fun d B'=>d=.ref 106 /\ B'=B):=G3.name G (by walk_at"vgn") ⟨rfl,rfl⟩ hg hk
 refine wpAny_mono (h0 Z s r) (fun v s' ⟨Z1,B1,d,x,hr,e1,e2⟩=>?_) fun _ _ h=>h;subst e1 e2;cases hr
 haveI hb:=G.K _ _ (Lz X.w.params).2
 haveI hc:(Lz X.w.params).1.cls=.type "dict" :=by kernel_rfl
 haveI hz:Z1 106=some (Lz X.w.params).1:=x.rel.st _ _ hb fun⟨o,vs,h1,h2,_⟩=>by rw[hb] at h1;cases h1;rw[hc] at h2;exact(nomatch h2)
 haveI hT1:=Iu X.w.params
 haveI hT2:=It X.w.params
 haveI hT3:=Is X.w.params
 generalize ((Sc X.w.params).1.1.toList.map EttE.of)=T at hT1 hT2 hT3;refine Z7 (d:=.sdict ettK (ettV.map V.int)) x ⟨106,T.map fun t=>Value.int t.i t.vt,rfl,by decide,⟨_,_,_,hz,⟨hc,by kernel_rfl,by kernel_rfl⟩,(Sc _).2,fun e he=>?_,?_,?_⟩,?_,?_⟩ h
 ·haveI he:e ∈ (Sc X.w.params).1.1.toList:=by simpa using he
  rw[hT1] at he;obtain⟨t,_,rfl⟩:=mem_map.mp he;exact⟨t.s,by exact if_pos rfl,rfl⟩
 ·rw[hT1,<- hT2,Wb];exact R9 T
 ·rw[<- hT2,Wb,map_map]
  haveI:(T.map ((fun x:Str × Value=>x.1) ∘ fun t:EttE=>(t.s,Value.int t.i t.vt)))=ettK:=by rw[<- hT2];rfl
  rw[this];exact Pp
 ·rw[<- hT2];simp
 ·rw[<- hT3];exact Ol T
end
end
section
noncomputable abbrev tv(p:Int × Int × Int):V:=.tup [.int p.1,.int p.2.1,.int p.2.2]
noncomputable def P4(p q:Int × Int × Int):Int × Int × Int:=(p.1 + q.1,p.2.1 + q.2.1,p.2.2 + q.2.2)
noncomputable abbrev TD:Type:=List Str × List (Int × Int × Int)
noncomputable def Ze(a:TD)(p:Str × Int × Int × Int):TD:=if p.1 ∈ a.1 then (Zo a.1 p.1,vput a.1 a.2 p.1 (P4 p.2 ((vat a.1 a.2 p.1).getD (0,0,0)))) else (Zo a.1 p.1,vput a.1 a.2 p.1 p.2)
noncomputable def Uv(a b:TD):TD:=(b.1.zip b.2).foldl Ze (Z9 (a.1.zip a.2) ([],[]))
theorem Ry(a:TD)(p:Str × Int × Int × Int):(Ze a p).1.length ≤ a.1.length + 1:=by
 unfold Ze;split <;> exact U2 _ _
theorem W5:∀ (l:List (Str × Int × Int × Int)) (a:TD),(l.foldl Ze a).1.length ≤ a.1.length + l.length
 | [],a=>le_refl _
 | p::l,a=>by
  rw[foldl_cons,length_cons];exact le_trans (W5 l (Ze a p)) (le_trans (add_le_add_right (Ry a p) _) (le_of_eq (succ_add_eq_add_succ ..)))
theorem Ws:∀ (l:List (Str × Int × Int × Int)) (a:TD),a.1.length=a.2.length->(l.foldl Ze a).1.length=(l.foldl Ze a).2.length
 | [],_,h=>h
 | p::l,a,h=>Ws l _ (by unfold Ze;split <;> exact W2 h)
noncomputable def posG:Pos:=⟨27,42,27,92⟩
structure GenOk(X:Cx):Prop where
 C:CodeHd X.base 55 51
 g:∃ mg,X.base.Ns mainGlobals mg /\ ∃ bm ob,mg "__builtins__" =some (.ref bm) /\ bm ≠ builtinsNs /\ bm ≠ mainGlobals /\ X.base.get? bm=some ob /\ ob.cls=.type "module" /\ ob.dict=some builtinsNs /\ ob.data=.plain
section
variable{X:Cx}{B:St}{k:Nat}{P:V->St->Prop}
theorem GenOk.callee(h:GenOk X){fd L a}:GenOk (X.callee fd L a):=⟨h.C,h.g⟩
noncomputable abbrev gtC:Addr × Cell:=(51,.raw (Xm posG))
noncomputable abbrev acL(a b:TD)(n:Addr)(u1 u2:Option V):List (Str × Option V):=[("target",some (.sdict a.1 (a.2.map tv))),("source",some (.sdict b.1 (b.2.map tv))),("new_callers",some (.ref n)),("func",u1),("caller",u2)]
theorem sp_56t(G:G3 X)(hG:GenOk X)(hA:Rm X.A (k + 2)){a b:TD}(hl:a.1.length ≤ 1000000)(hl':b.1.length ≤ 1000000){rest:List (Addr × Cell)}(hm:B.mem=gtC::rest)(h:P (.sdict (Uv a b).1 ((Uv a b).2.map tv)) B):CALL X (.ref 56) [(.sdict a.1 (a.2.map tv)),(.sdict b.1 (b.2.map tv))] B P:=by
 refine CALLR.call (CALLR.defG (ps:=["target", "source"]) (loc:=[("target",some (.sdict a.1 (a.2.map tv))),("source",some (.sdict b.1 (b.2.map tv))),("new_callers",none),("func",none),("caller",none)]) (cel:=[]) (sub:=[gtC]) (rest:=rest) G hA (o56 _) (o55 _) (f56 _) (b56 _) ?_ rfl ⟨rfl,rfl,trivial⟩ trivial hm ?_)
 ·refine lenC fun _=>lenC fun _=>Xb ?_;kernel_rfl
 intro L hR hh G'
 haveI hG':GenOk (X.callee (f56 X.w.params).1 L 56):=hG.callee
 refine EX.frz ?_;walk_at"v";walk_at"v";refine EV.dictM fun n=>?_;walk_at"v";walk_at"v"
 haveI fin:∀ a:TD,(a.1.zip (a.2.map tv)).map (fun p:Str × V=>V.tup [.str p.1,p.2])=(a.1.zip a.2).map (fun p:Str × Int × Int × Int=>V.tup [.str p.1,tv p.2]):=fun a=>by
  rw[List.zip_map_right,map_map];rfl
 haveI zl:∀ a:TD,(a.1.zip a.2).length ≤ a.1.length:=fun a=>by rw[length_zip];exact min_le_left ..
 haveI h2:∀ i,(Z9 ((a.1.zip a.2).take i) (([],[]):TD)).1.length ≤ 1000000:=fun i=>by
  haveI:=Ys ((a.1.zip a.2).take i) (([],[]):TD)
  rw[length_take] at this;exact le_trans this (le_trans (le_of_eq (zero_add _)) (le_trans (min_le_right ..) (le_trans (zl a) hl)))
 refine ES.for hh ?_;refine EV.meth "dict" "dict.items" F.plainAttrs_dict F.slot_dict_items F.type_dict_items ?_;walk_at"v";refine⟨TypeV.sdict,?_⟩;walk_at"v";refine CALL.sitems ?_;refine .jl (ITER.sitems hh) (fin _) (fun _=>True) (fun i o=>⟨acL a b n (o 0) (o 1),[],[],[gtC,(n,.sdict (Z9 ((a.1.zip a.2).take i) ([],[])).1 ((Z9 ((a.1.zip a.2).take i) ([],[])).2.map tv))]⟩) [none,none] trivial rfl ?_ ?_
 ·intro i ⟨x,y⟩ o hx _;walk_at"vs";refine ES.asgSub ?_ (by walk_at"vside");walk_at"vs";refine SETI.scell (by walk_at"vm") (le_trans (h2 i) (by decide)) (by walk_at"vum") ?_;walk_at"vs";refine JS.at [some (.str x),some (tv y)] trivial ?_;rw[Za hx,Yv,Yw];rfl
 ·intro o _;walk_at"v";rw[take_length];refine ES.for hh ?_;refine EV.meth "dict" "dict.items" F.plainAttrs_dict F.slot_dict_items F.type_dict_items ?_;walk_at"v";refine⟨TypeV.sdict,?_⟩;walk_at"v";refine CALL.sitems ?_;refine .jl (ITER.sitems hh) (fin _) (fun _=>True) (fun i q=>⟨acL a b n (q 0) (q 1),[],[],[gtC,(n,.sdict (((b.1.zip b.2).take i).foldl Ze (Z9 (a.1.zip a.2) ([],[]))).1 ((((b.1.zip b.2).take i).foldl Ze (Z9 (a.1.zip a.2) ([],[]))).2.map tv))]⟩) [o 0,o 1] trivial rfl ?_ ?_
  ·intro i ⟨x,y⟩ q hx _
   haveI h4:(((b.1.zip b.2).take i).foldl Ze (Z9 (a.1.zip a.2) ([],[]))).1.length ≤ 1000000 + 1000000:=by
    refine le_trans (W5 _ _) (add_le_add (by haveI:=h2 (a.1.zip a.2).length;rwa [take_length] at this) ?_);rw[length_take];exact le_trans (min_le_right ..) (le_trans (zl b) hl')
   haveI h6:=Ws ((b.1.zip b.2).take i) (Z9 (a.1.zip a.2) ([],[])) (Wx _ _ rfl)
   haveI h7:((b.1.zip b.2).take (i + 1)).foldl Ze (Z9 (a.1.zip a.2) ([],[]))=Ze (((b.1.zip b.2).take i).foldl Ze (Z9 (a.1.zip a.2) ([],[]))) (x,y):=by
    rw[Za hx,foldl_append];rfl
   generalize ((b.1.zip b.2).take i).foldl Ze (Z9 (a.1.zip a.2) ([],[]))=st at *;walk_at"vs";refine CMP.inSC (by walk_at"vm") ?_;walk_at"v"
   by_cases hm:x ∈ st.1
   ·refine(if_pos (by exact if_pos (by assumption))).mpr ?_;walk_at"vs";refine EV.callB (by walk_at"vg") "isinstance" (by walk_at"vbn") ?_;walk_at"vs";refine CALL.isiTT ?_;walk_at"vs";refine(if_pos rfl).mpr ?_;walk_at"vs";obtain⟨mg,hmg,hbm⟩:=hG'.g;obtain⟨o,ho⟩:=Option.isSome_iff_exists.mp ((Xn h6).trans (decide_eq_true hm));refine ES.asgSub ?_ (by walk_at"vside");refine EV.tupZip (k:=k) hR G'.lim rfl hG'.C hmg rfl hbm rfl rfl (by decide) rfl rfl rfl rfl ?_;refine G'.bname (v:=.type "tuple") (by walk_at"vbn") ⟨rfl,?_⟩;refine G'.bname (v:=.type "zip") (by walk_at"vbn") ⟨rfl,?_⟩;walk_at"vs";refine SUB.scell (d:=tv o) (by walk_at"vm") (by rw[Wu,ho];rfl) ?_;walk_at"vs";refine⟨[y.1,y.2.1,y.2.2],[o.1,o.2.1,o.2.2],rfl,rfl,(by decide:3 ≤ sizeLine),mem_cons_self,?_⟩;walk_at"vs";refine SETI.scell (by walk_at"vm") (le_trans h4 (by decide)) (by walk_at"vum") ?_;walk_at"vs";refine JS.at [some (.str x),some (tv y)] trivial ?_
    haveI e:Ze st (x,y)=(Zo st.1 x,vput st.1 st.2 x (P4 y o)):=by
     unfold Ze;rw[if_pos hm,ho];rfl
    rw[h7,e];rw[<- Yw tv];rfl
   ·refine(if_neg (by simpa using hm)).mpr ?_;walk_at"vs";refine ES.asgSub ?_ (by walk_at"vside");walk_at"vs";refine SETI.scell (by walk_at"vm") (le_trans h4 (by decide)) (by walk_at"vum") ?_;walk_at"vs";refine JS.at [some (.str x),some (tv y)] trivial ?_
    haveI e:Ze st (x,y)=(Zo st.1 x,vput st.1 st.2 x y):=by
     unfold Ze;rw[if_neg hm]
    rw[h7,e,Yw];rfl
  ·intro q _;rw[take_length];walk_at"vs";refine⟨n,_,⟨[("target",none),("source",none),("new_callers",none),("func",none),("caller",none)],[],[],[gtC]⟩,_,⟨rfl,⟨_,.tail .here,.rest⟩,.drop (.drop (.drop (.drop (.drop .nil)))),.nil,rfl⟩,.ret .at,?_⟩
   haveI e:B={B with mem:=gtC::rest}:=by rw[<- hm]
   rw[e] at h;exact h
end
end
section
noncomputable def R6(b:Int × Int × Int)(r t0 t1:Int):Int × Int × Int:=
 if b.2.2=1 \/ r.fmod 2=0 then (if 3 < r then b.1 else 0,if 1 < r then b.2.1 else t0,b.2.2)
 else if r=3 /\ b.1 < t1 then (b.1 + 1,b.2.1,0)
 else if 0 < b.2.1 then (0,b.2.1 - 1,0) else (0,t0,1)
section
variable{X:Cx}{B:St}{k:Nat}{P:V->St->Prop}
theorem sp_165(G:G3 X)(hA:Rm X.A (k + 1)){b:Int × Int × Int}{r t0 t1:Int}(h:P (tv (R6 b r t0 t1)) B):CALL X (.ref 165) [tv b,.int r,.tup [.int t0,.int t1]] B P:=by
 refine CALLR.call (CALLR.defG (ps:=["best", "rank", "tops"]) (loc:=[("best",some (tv b)),("rank",some (.int r)),("tops",some (.tup [.int t0,.int t1])),("threes",none),("left",none),("lost",none)]) (cel:=[]) (sub:=[]) (rest:=B.mem) G hA (Jy _) (o164 _) (Io _) (b165 _) ?_ rfl ⟨rfl,rfl,rfl,trivial⟩ trivial rfl ?_)
 ·refine lenC fun _=>lenC fun _=>lenC fun _=>Xb ?_;kernel_rfl
 intro L hR hh G';unfold R6 at h;walk_at"v";walk_at"vag"
 iterate 10 walk_at"v"
 refine ES.ite (ET.or2 (b1:=b.2.2 == 1) (b2:=r.fmod 2 == 0) ?_ ?_ ?_)
 ·walk_at"vs";exact⟨rfl,rfl⟩
 ·walk_at"vs";refine BIN.mod ?_ (by decide);walk_at"vs";exact⟨rfl,rfl⟩
 by_cases h1:b.2.2=1 \/ r.fmod 2=0
 ·rw[if_pos h1] at h;refine(if_pos (by simpa using h1)).mpr ?_
  iterate 4 walk_at"v"
  refine EV.ife2 (c:=decide (3 < r)) (d1:=.int b.1) (d2:=.int 0) ?_ ?_ ?_ ?_
  ·walk_at"vs";exact⟨rfl,rfl⟩
  ·walk_at"vs";exact⟨rfl,rfl⟩
  ·walk_at"vs";exact⟨rfl,rfl⟩
  rw[Oi V.int]
  iterate 1 walk_at"v"
  refine EV.ife2 (c:=decide (1 < r)) (d1:=.int b.2.1) (d2:=.int t0) ?_ ?_ ?_ ?_
  ·walk_at"vs";exact⟨rfl,rfl⟩
  ·walk_at"vs";exact⟨rfl,rfl⟩
  ·walk_at"vs";refine SUB.ti 0 rfl rfl (by decide:2 ≤ sizeLine) ?_;walk_at"vs";exact⟨rfl,rfl⟩
  rw[Oi V.int];walk_at"vs";exact⟨(by decide:3 ≤ sizeLine),h⟩
 ·rw[if_neg h1] at h;refine(if_neg (by simpa using h1)).mpr ?_
  iterate 2 walk_at"v"
  refine ES.ite (ET.and2 (b1:=r == 3) (b2:=decide (b.1 < t1)) ?_ ?_ ?_)
  ·walk_at"vs";exact⟨rfl,rfl⟩
  ·walk_at"vs";refine SUB.ti 1 rfl rfl (by decide:2 ≤ sizeLine) ?_;walk_at"vs";exact⟨rfl,rfl⟩
  by_cases h2:r=3 /\ b.1 < t1
  ·rw[if_pos h2] at h;refine(if_pos (by simpa using h2)).mpr ?_;walk_at"vs";exact⟨(by decide:3 ≤ sizeLine),h⟩
  ·rw[if_neg h2] at h;refine(if_neg (by simpa using h2)).mpr ?_;walk_at"vs"
   by_cases h3:0 < b.2.1
   ·rw[if_pos h3] at h;refine(if_pos (decide_eq_true h3)).mpr ?_;walk_at"vs";exact⟨(by decide:3 ≤ sizeLine),h⟩
   ·rw[if_neg h3] at h;refine(if_neg fun q=>h3 (of_decide_eq_true q)).mpr ?_;walk_at"vs";refine SUB.ti 0 rfl rfl (by decide:2 ≤ sizeLine) ?_;walk_at"vs";exact⟨(by decide:3 ≤ sizeLine),h⟩
end
end
section
noncomputable def sufL:List Str:=["", " b", "\"\n", "\\"]
structure Pl where
 signs:List Str
 ps:List (Str × Int × Nat × Nat × Nat)
noncomputable def pl1(n:Nat)(b:Pl)(cell:Nat):Pl:=
 let sign:=b.signs.getD (cell % 48 % b.signs.length) ""
 ⟨b.signs.eraseIdx (cell % 48 % b.signs.length),b.ps++[(sign++sufL.getD (cell / 192 % 4) "",(vat ettK ettV sign).getD 0,cell / 48 % 4,cell / 768 % n,cell / 768 / n % n)]⟩
noncomputable def Zh(cells:List Nat):Nat:=4 + cells.getD 0 0 % 2
theorem P7{s t:Nat}(h:s + t=48)(ht:t ≤ 5):0 < s:=Nat.pos_of_ne_zero fun q=>absurd (le_trans (le_of_eq (h.symm.trans (by rw[q,zero_add]))) ht) (by decide)
theorem Z8{α:Type}{l:List α}{i:Nat}(d:α)(h:i < l.length):l[i]?=some (l.getD i d):=by
 rw[getD_eq_getElem?_getD,getElem?_eq_getElem h];rfl
theorem R8:∀ s ∈ ettK,s.length ≤ 3:=by decide +kernel
theorem Jn{g:Nat}(h:g < 4):[V.str "",V.str " b",V.str ("\"\n"),V.str "\\"][g]?=some (.str (sufL.getD g "")) /\ (sufL.getD g "").length ≤ 2:=by
 haveI h4:g=0 \/ g=1 \/ g=2 \/ g=3:=by exact(by decide:∀ g < 4,g=0 \/ g=1 \/ g=2 \/ g=3) g h
 rcases h4 with h | h | h | h <;> subst h <;> exact⟨rfl,by decide⟩
theorem Na{α β:Type}{f:α->β}:∀ {l:List α} {i:Nat},(l.eraseIdx i).map f=(l.map f).eraseIdx i:=by
 intro l
 induction l with
 | nil=>intro i;rfl
 | cons a l ih=>intro i;cases i with
  | zero=>rfl
  | succ i=>show f a::(l.eraseIdx i).map f=f a::(l.map f).eraseIdx i;rw[ih]
theorem I6{s:Str}(h:s ∈ ettK):vat ettK (ettV.map V.int) s=some (.int ((vat ettK ettV s).getD 0)):=by
 haveI h1:=Iv s h
 haveI:∀ (ks:List Str) (l:List Int),vat ks (l.map V.int) s=(vat ks l s).map V.int:=by
  intro ks
  induction ks with
  | nil=>intro l;rfl
  | cons a ks ih=>
   intro l;cases l with
   | nil=>rw[map_nil];simp only[vat,List.zip_nil_right];rfl
   | cons b l=>rw[map_cons,Zd,Zd,ih];split <;> rfl
 rw[this];cases e:vat ettK ettV s with
 | none=>rw[e] at h1;exact ftE h1
 | some v=>rfl
theorem Tf{cells:List Nat}:4 ≤ Zh cells /\ Zh cells ≤ 5:=by unfold Zh;exact⟨le_add_right ..,add_le_add_left (le_of_lt_succ (mod_lt _ (by decide))) 4⟩
noncomputable def plF(cells:List Nat)(t:Nat):Pl:=(((cells.drop 1).take (Zh cells)).take t).foldl (pl1 (Zh cells)) ⟨ettK,[]⟩
noncomputable def plV(p:Str × Int × Nat × Nat × Nat):V:=.tup [.str p.1,.int p.2.1,nat p.2.2.1,.tup [nat p.2.2.2.1,nat p.2.2.2.2]]
structure J4(n:Nat)(b:Pl)(t:Nat):Prop where
 sl:b.signs.length + t=48
 sm:∀ s ∈ b.signs,s ∈ ettK
 pl:b.ps.length=t
theorem Jt{n:Nat}{b:Pl}{t:Nat}(h:J4 n b t)(ht:t < 6)(cell:Nat):J4 n (pl1 n b cell) (t + 1):=by
 haveI hl:=h.sl
 haveI hj:cell % 48 % b.signs.length < b.signs.length:=mod_lt _ (P7 hl (le_of_lt_succ ht))
 refine⟨?_,fun s hs=>h.sm s (List.mem_of_mem_eraseIdx hs),?_⟩
 ·show(b.signs.eraseIdx _).length + (t + 1)=48;rw[List.length_eraseIdx_of_lt hj];exact(succ_add_eq_add_succ ..).symm.trans ((congrArg (· + t) (Nat.sub_add_cancel (Nat.zero_lt_of_lt hj))).trans hl)
 ·show(b.ps++[_]).length=_;rw[length_append,h.pl];rfl
theorem S0{cells:List Nat}{t c:Nat}(h:((cells.drop 1).take (Zh cells))[t]?=some c):plF cells (t + 1)=pl1 (Zh cells) (plF cells t) c:=by
 unfold plF;rw[List.take_succ,h,foldl_append];rfl
theorem Pc{cells:List Nat}:∀ {t:Nat},t ≤ ((cells.drop 1).take (Zh cells)).length->J4 (Zh cells) (plF cells t) t:=by
 intro t
 induction t with
 | zero=>exact fun _=>⟨by show ettK.length + 0=48;rw[Om],fun s h=>h,rfl⟩
 | succ t ih=>
  intro h;rw[S0 (getElem?_eq_getElem h)];exact Jt (ih (le_of_succ_le h)) (lt_of_lt_of_le h (le_trans (by rw[length_take];exact min_le_left ..) (le_trans Tf.2 (by decide)))) _
theorem Ma{l:List V}{n:Nat}(hl:l.length=7)(hn:n=4 \/ n=5):X3 l (some 1) (some (1 + (n:Int))) Option.none=(l.drop 1).take n:=by
 match l,hl with
 | [_,_,_,_,_,_,_],_=>rcases hn with rfl | rfl <;> rfl
section
variable{X:Cx}{B:St}{k:Nat}{P:V->St->Prop}
theorem sp_148(G:G3 X)(hA:Rm X.A (k + 1)){cells:List Nat}(hc:cells.length=7)(h:P (.list ((plF cells (Zh cells)).ps.map plV)) B):CALL X (.ref 148) [.list (cells.map nat)] B P:=by
 refine CALLR.call (CALLR.defG (ps:=["cells"]) (loc:=[("cells",some (.list (cells.map nat))),("size",none),("signs",none),("places",none),("cell",none),("sign",none),("leads",none)]) (cel:=[]) (sub:=[]) (rest:=B.mem) G hA (I0 _) (o147 _) (Ip _) (b148 _) ?_ rfl ⟨rfl,trivial⟩ trivial rfl ?_)
 ·refine lenC fun _=>Xb ?_;kernel_rfl
 intro L hR hh G'
 haveI hz:=Tf (cells:=cells)
 haveI hz0:Zh cells ≠ 0:=ne_of_gt (lt_of_lt_of_le (by decide) hz.1)
 haveI hzp:0 < Zh cells /\ Zh cells < 1073741824:=⟨Nat.pos_of_ne_zero hz0,lt_of_le_of_lt hz.2 (by decide)⟩
 haveI hcl:(cells.map nat).length=7:=(length_map _).trans hc
 walk_at"v";refine ES.asgSw (names:=["size", "signs", "places"]) hh ?_ (by walk_at"vside") (by walk_at"vside");walk_at"vs";refine SUB.li 0 0 rfl (lt_of_lt_of_le (by decide) (le_of_eq hc.symm)) (le_trans (le_of_eq hc) (by decide)) ?_;walk_at"vs";refine BIN.modN (b:=2) ?_ (by decide);walk_at"vs";refine EV.callT (by walk_at"vg") "list" (by walk_at"vbn") ?_;walk_at"v";refine EV.ett (by walk_at"vg") ?_;walk_at"v";refine CALL.listDM hh (by rw[Om];decide) fun Ds=>?_;walk_at"v";refine EV.listM ?_;walk_at"vss";intro Dp;walk_at"vss";refine⟨_,rfl,rfl,?_⟩;show SNs _ ["places", "signs", "size"] [V.ref Dp,V.ref Ds,_] _ _;refine SNs.cons ?_;walk_at"v";refine SNs.cons ?_;walk_at"v";refine SNs.cons ?_;walk_at"v";refine SNs.nil ?_;walk_at"vs";rw[show(4:Int) + ((cells.getD 0 0 % 2:Nat):Int)=((Zh cells:Nat):Int) from rfl];refine ES.for hh ?_;walk_at"vs";refine⟨_,rfl,?_⟩;walk_at"vs";refine⟨_,rfl,?_⟩;walk_at"vs";refine SUB.sliceL (st:=Option.none) (le_trans (le_of_eq hcl) (by decide)) (fun q=>nomatch q) ?_;refine pq (by rw[Ma hcl (by rcases Nat.mod_two_eq_zero_or_one (cells.getD 0 0) with e | e <;> unfold Zh <;> rw[e] <;> simp),<- List.map_drop,<- map_take]) ?_;refine .jl (ITER.list hh) rfl (fun _=>True) (fun t o=>⟨[("cells",some (.list (cells.map nat))),("size",some (nat (Zh cells))),("signs",some (.ref Ds)),("places",some (.ref Dp)),("cell",o 0),("sign",o 1),("leads",o 2)],[],[],[(Ds,.list ((plF cells t).signs.map V.str)),(Dp,.list ((plF cells t).ps.map plV))]⟩) [none,none,none] trivial rfl ?_ ?_
 ·intro t c o ht' _
  haveI htl:=(List.getElem?_eq_some_iff.mp ht').1
  haveI hok:=Pc (cells:=cells) (t:=t) (le_of_lt htl)
  haveI ht5:t ≤ 5:=le_trans (le_of_lt htl) (le_trans (by rw[length_take];exact min_le_left ..) hz.2)
  rw[S0 ht'];generalize plF cells t=b at *;obtain⟨o1,o2,o3⟩:=hok
  haveI hj0:0 < b.signs.length:=P7 o1 ht5
  haveI hjg:b.signs[c % 48 % b.signs.length]?=some (b.signs.getD (c % 48 % b.signs.length) ""):=Z8 _ (mod_lt _ hj0)
  haveI hsg:=o2 _ (mem_of_getElem? hjg)
  haveI hsl:b.signs.length ≤ 2 ^ 20:=le_trans (le_add_right ..) (le_trans (le_of_eq o1) (by decide))
  walk_at"vs";refine EV.meth "list" "list.pop" F.plainAttrs_list F.slot_list_pop F.type_list_pop ?_;walk_at"vs";refine⟨TypeV.cell (by walk_at"vm"),?_⟩;walk_at"vs";refine BIN.modN (b:=48) ?_ (by decide);walk_at"vs";refine EV.lenC (by walk_at"vg") ?_;walk_at"vs";refine CALL.lenLM (by walk_at"vm") (by rw[length_map];exact le_trans hsl (by decide)) ?_;refine pq (by rw[length_map]) ?_;refine BIN.modN (b:=b.signs.length) ?_ (ne_of_gt hj0);walk_at"vs";refine CALL.popAt (d:=.str (b.signs.getD (c % 48 % b.signs.length) "")) (by walk_at"vm") rfl (by rw[getElem?_map,hjg];rfl) (by walk_at"vum") ?_ (by rw[length_map];exact le_trans hsl (by decide));walk_at"v";walk_at"v";walk_at"vag";walk_at"vs";refine BIN.divN 768 ?_ (by decide);walk_at"vs";refine BIN.modN (Zh cells) ?_ hz0;walk_at"vs";refine BIN.divN 768 ?_ (by decide);walk_at"vs";refine BIN.divN (Zh cells) ?_ hzp;walk_at"vs";refine BIN.modN (Zh cells) ?_ hz0;walk_at"vss";refine EV.meth "list" "list.append" F.plainAttrs_list F.slot_list_append F.type_list_append ?_;walk_at"vs";refine⟨TypeV.cell (by walk_at"vm"),?_⟩;walk_at"vss";refine BIN.divN 192 ?_ (by decide);walk_at"vs";refine BIN.modN 4 ?_ (by decide);obtain⟨hs1,hs2⟩:=Jn (g:=c / 192 % 4) (mod_lt _ (by decide));refine SUB.ti (c / 192 % 4) (d:=.str (sufL.getD (c / 192 % 4) "")) rfl hs1 (le_of_ble_eq_true rfl) ?_;refine BIN.adds ?_ (Wf (add_le_add (R8 _ hsg) hs2));walk_at"v";walk_at"v";refine EV.ett (by walk_at"vg") ?_;walk_at"vs";refine SUB.sdict (I6 hsg) ?_;walk_at"vs";refine BIN.divN 48 ?_ (by decide);walk_at"vs";refine BIN.modN 4 ?_ (by decide);walk_at"vss";refine CALL.append (by walk_at"vm") (by walk_at"vum") ?_ (by rw[length_map];exact(le_trans (le_trans (le_of_eq o3) ht5) (by decide)));walk_at"vs";refine JS.at [some (nat c),some (.str (b.signs.getD (c % 48 % b.signs.length) "")),some (.tup [nat (c / 768 % Zh cells),nat (c / 768 / Zh cells % Zh cells)])] trivial ?_;unfold pl1;dsimp only;rw[map_append,<- Na];rfl
 ·intro o _;rw[length_take,length_drop,hc,Nat.min_eq_left (le_trans hz.2 (by decide))];generalize plF cells (Zh cells)=b at *;walk_at"v";refine J.frz (a:=Dp) (c:=.list (b.ps.map plV)) (B2:=⟨[("cells",some (.list (cells.map nat))),("size",some (nat (Zh cells))),("signs",some (.ref Ds)),("places",some (.list (b.ps.map plV))),("cell",o 0),("sign",o 1),("leads",o 2)],[],[],[(Ds,.list (b.signs.map V.str))]⟩) ⟨rfl,⟨_,.tail .here,.rest⟩,.same (.same (.same (.cons .at (.same (.same (.same .nil)))))),FzE.refl _,rfl⟩ ?_;refine J.frz (a:=Ds) (c:=.list (b.signs.map V.str)) (B2:=⟨[("cells",some (.list (cells.map nat))),("size",some (nat (Zh cells))),("signs",some (.list (b.signs.map V.str))),("places",some (.list (b.ps.map plV))),("cell",o 0),("sign",o 1),("leads",o 2)],[],[],[]⟩) ⟨rfl,⟨_,.here,.rest⟩,.same (.same (.cons .at (.same (.same (.same (.same .nil)))))),FzE.refl _,rfl⟩ ?_;show ES _ _ _ _;walk_at"vss";exact h
end
end
section
open PySem PySem.Spec PySem.Calls PyProof.Rows PySem.W PySem.SeqAt
theorem Q8{α:Type}{P:List α->Prop}(h0:P [])(h1:∀ l a,P l->P (l++[a]))(l:List α):P l:=by
 have:∀ l:List α,P l.reverse:=fun l=>by
  induction l with
  | nil=>exact h0
  | cons a l ih=>rw[reverse_cons];exact h1 _ _ ih
 have h:=this l.reverse;rwa [List.reverse_reverse] at h
section
variable{K:Type}[DecidableEq K]{β:Type}
theorem Rd(key k:K)(d:β):∀ (ks:List K) (l:List β),ks.length=l.length->vat (Zo ks k) (vput ks l k d) key=if k=key then some d else vat ks l key:=by
 intro ks
 induction ks with
 | nil=>
  intro l h;cases l with
  | nil=>show vat [k] [d] key=_;rw[Zd]
  | cons b l=>contradiction
 | cons a ks ih=>
  intro l h;cases l with
  | nil=>contradiction
  | cons b l=>
   have hl:ks.length=l.length:=by simpa using h
   by_cases hak:a=k
   ·subst hak;have e1:Zo (a::ks) a=a::ks:=by unfold Zo;rw[if_pos mem_cons_self]
    have e2:vput (a::ks) (b::l) a d=d::zipWith (fun k' d'=>if k'=a then d else d') ks l:=by
     unfold vput;rw[if_pos mem_cons_self,zipWith_cons_cons,if_pos rfl]
    rw[e1,e2,Zd,Zd]
    by_cases hk:a=key
    ·rw[if_pos hk,if_pos hk]
    ·rw[if_neg hk,if_neg hk,if_neg hk]
     have:∀ (ks:List K) (l:List β),vat ks (zipWith (fun k' d'=>if k'=a then d else d') ks l) key=vat ks l key:=by
      intro ks
      induction ks with
      | nil=>intro l;rfl
      | cons c ks ih=>
       intro l;cases l with
       | nil=>rfl
       | cons e l=>
        rw[zipWith_cons_cons,Zd,Zd,ih]
        by_cases hc:c=key
        ·rw[if_pos hc,if_pos hc,if_neg (fun h:c=a=>hk (h ▸ hc))]
        ·rw[if_neg hc,if_neg hc]
     exact this ks l
   ·have ih':=ih l hl
    by_cases hm:k ∈ ks
    ·have e1:Zo (a::ks) k=a::Zo ks k:=by unfold Zo;rw[if_pos (mem_cons_of_mem _ hm),if_pos hm]
     have e2:vput (a::ks) (b::l) k d=b::vput ks l k d:=by
      unfold vput;rw[if_pos (mem_cons_of_mem _ hm),if_pos hm,zipWith_cons_cons,if_neg hak]
     rw[e1,e2,Zd,Zd,ih']
     by_cases hk:k=key
     ·have:¬ a=key:=fun h=>hak (h.trans hk.symm);rw[if_neg this,if_pos hk,if_pos hk]
     ·rw[if_neg hk,if_neg hk]
    ·have hm2:k ∉ a::ks:=fun h=>by rcases mem_cons.mp h with h | h;exact hak h.symm;exact hm h
     have e1:Zo (a::ks) k=a::Zo ks k:=by unfold Zo;rw[if_neg hm2,if_neg hm];rfl
     have e2:vput (a::ks) (b::l) k d=b::vput ks l k d:=by unfold vput;rw[if_neg hm2,if_neg hm];rfl
     rw[e1,e2,Zd,Zd,ih']
     by_cases hk:k=key
     ·have:¬ a=key:=fun h=>hak (h.trans hk.symm);rw[if_neg this,if_pos hk,if_pos hk]
     ·rw[if_neg hk,if_neg hk]
theorem Tl(key:K)(d:β):∀ (l:List (K × β)) (ks:List K) (vs:List β),ks.length=vs.length->(∀ p ∈ l,p.1=key->p.2=d)->(vat ks vs key=some d \/ ∃ p ∈ l,p.1=key)->vat (Z9 l (ks,vs)).1 (Z9 l (ks,vs)).2 key=some d
 | [],ks,vs,_,_,h=>by
  rcases h with h | ⟨p,hp,_⟩
  ·exact h
  ·exact mnE hp
 | p::l,ks,vs,hl,hd,h=>by
  show vat (Z9 l (Zo ks p.1,vput ks vs p.1 p.2)).1 (Z9 l (Zo ks p.1,vput ks vs p.1 p.2)).2 key=some d;refine Tl key d l _ _ (W2 hl) (fun q hq=>hd q (mem_cons_of_mem _ hq)) ?_
  by_cases hk:p.1=key
  ·left
   rw[Rd key p.1 p.2 ks vs hl,if_pos hk,hd p mem_cons_self hk]
  ·rcases h with h | ⟨q,hq,hqk⟩
   ·left;rw[Rd key p.1 p.2 ks vs hl,if_neg hk];exact h
   ·rcases mem_cons.mp hq with rfl | hq
    ·exact absurd hqk hk
    ·exact .inr ⟨q,hq,hqk⟩
theorem Tz{α:Type}(f:α->β):∀ (l:List (K × α)) (ks:List K) (vs:List α),Z9 (l.map fun p=>(p.1,f p.2)) (ks,vs.map f)=((Z9 l (ks,vs)).1,(Z9 l (ks,vs)).2.map f)
 | [],_,_=>rfl
 | p::l,ks,vs=>by
  show Z9 (l.map fun p=>(p.1,f p.2)) (Zo ks p.1,vput ks (vs.map f) p.1 (f p.2))=_;rw[Yw,Tz f l];rfl
theorem T5:∀ (l:List (K × β)) (ks:List K) (vs:List β),(Z9 l (ks,vs)).1=(l.map (·.1)).foldl Zo ks
 | [],_,_=>rfl
 | p::l,ks,vs=>T5 l (Zo ks p.1) (vput ks vs p.1 p.2)
theorem Ym:∀ (ks:List K) (l:List β) (ks0:List K) (l0:List β),ks.length=l.length->(ks0++ks).Nodup->Z9 (ks.zip l) (ks0,l0)=(ks0++ks,l0++l)
 | [],[],_,_,_,_=>by rw[append_nil,append_nil];rfl
 | [],_::_,_,_,h,_=>by contradiction
 | _::_,[],_,_,h,_=>by contradiction
 | k::ks,d::l,ks0,l0,h,hd=>by
  have hk:k ∉ ks0:=fun hm=>(nodup_append.mp hd).2.2 k hm k mem_cons_self rfl;show Z9 (ks.zip l) (Zo ks0 k,vput ks0 l0 k d)=_;have e1:Zo ks0 k=ks0++[k]:=by unfold Zo;rw[if_neg hk]
  have e2:vput ks0 l0 k d=l0++[d]:=by unfold vput;rw[if_neg hk]
  rw[e1,e2,Ym ks l _ _ (by simpa using h) (by simpa using hd),append_assoc,append_assoc];rfl
theorem W0{k:K}{v:β}:∀ {ks:List K} {l:List β},ks.Nodup->(k,v) ∈ ks.zip l->vat ks l k=some v
 | [],_,_,h=>by exact mnE h
 | _::_,[],_,h=>by exact mnE h
 | a::ks,b::l,hd,h=>by
  rw[Zd];rw[zip_cons_cons] at h;rcases mem_cons.mp h with h | h
  ·cases h;rw[if_pos rfl]
  ·have:a ≠ k:=fun e=>(nodup_cons.mp hd).1 (e ▸ (List.of_mem_zip h).1);rw[if_neg this];exact W0 (nodup_cons.mp hd).2 h
theorem Vd{k:K}{v:β}:∀ {ks:List K} {l:List β},vat ks l k=some v->k ∈ ks
 | [],_,h=>by exact nsE h
 | _::_,[],h=>by rw[Re] at h;exact nsE h
 | a::ks,b::l,h=>by
  rw[Zd] at h;split at h
  ·rename_i e;rw[e];exact mem_cons_self
  ·exact mem_cons_of_mem _ (Vd h)
theorem Nr{k:K}{o x:Int}:∀ {ks:List K} {l:List Int},ks.length=l.length->ks.Nodup->vat ks l k=some o->(vput ks l k (o + x)).sum=l.sum + x:=by
 intro ks l hl hd ho;have hm:=Vd ho;unfold vput;rw[if_pos hm];clear hm
 induction ks generalizing l with
 | nil=>exact nsE ho
 | cons a ks ih=>
  cases l with
  | nil=>exact if_pos (by assumption)
  | cons b l=>
   have hl':ks.length=l.length:=by simpa using hl
   rw[Zd] at ho;rw[zipWith_cons_cons];obtain⟨ha,hd'⟩:=nodup_cons.mp hd
   by_cases e:a=k
   ·subst e;rw[if_pos rfl] at ho;have ho':=Option.some.inj ho;subst ho'
    have:∀ (ks:List K) (l:List Int),ks.length=l.length->a ∉ ks->zipWith (fun k' d'=>if k'=a then b + x else d') ks l=l:=by
     intro ks
     induction ks with
     | nil=>intro l h _;cases l with
      | nil=>rfl
      | cons _ _=>exact if_pos (by assumption)
     | cons c ks ih2=>
      intro l h hc;cases l with
      | nil=>rfl
      | cons e l=>
       rw[zipWith_cons_cons,ih2 l (by simpa using h) fun hm=>hc (mem_cons_of_mem _ hm),if_neg fun h:c=a=>hc (h ▸ mem_cons_self)]
    rw[this ks l hl' ha,if_pos rfl,sum_cons,sum_cons];exact Int.add_right_comm ..
   ·rw[if_neg e] at ho;rw[if_neg e,sum_cons,sum_cons,ih hl' hd' ho];exact(Int.add_assoc ..).symm
theorem Pm{ks:List K}(h:ks.Nodup)(k:K):(Zo ks k).Nodup:=by
 unfold Zo;split
 ·exact h
 ·rename_i hk;exact nodup_append.mpr ⟨h,by simp,fun a ha b hb e=>by rw[mem_singleton] at hb;subst hb;exact hk (e ▸ ha)⟩
theorem Mp{ks:List K}{k x:K}:x ∈ Zo ks k ↔ x ∈ ks \/ x=k:=by
 unfold Zo;split
 ·rename_i h;exact⟨.inl,fun q=>q.elim id fun e=>e ▸ h⟩
 ·rw[mem_append,mem_singleton]
end
structure Bk where
 (cc nc tt ct:Int) (ks:List Str) (ls:List Int)
noncomputable def bkV(b:Bk):V:=.tup [.int b.cc,.int b.nc,.int b.tt,.int b.ct,.sdict b.ks (b.ls.map V.int)]
noncomputable def bk0:Bk:=⟨0,0,0,0,[],[]⟩
noncomputable def Lc(a b:Bk):Bk:=⟨b.cc + a.cc,b.nc + a.nc,b.tt + a.tt,b.ct + a.ct,(Sw a.ks a.ls b.ks b.ls).1,(Sw a.ks a.ls b.ks b.ls).2⟩
structure Wy(α:Type) where
 (kf:α->Str) (xf cf tf gf:α->Int)
variable{α:Type}
noncomputable def enB(y:Wy α)(j:α):Bk:=⟨y.cf j,y.xf j,y.tf j,y.gf j,[y.kf j],[y.xf j]⟩
noncomputable def Zk(y:Wy α)(l:List α):Bk:=(l.map (enB y)).foldl Lc bk0
theorem Sz(y:Wy α)(l:List α)(j:α):Zk y (l++[j])=Lc (Zk y l) (enB y j):=by
 unfold Zk;rw[map_append,foldl_append];rfl
structure F7(y:Wy α)(l:List α):Prop where
 nd:(Zk y l).ks.Nodup
 len:(Zk y l).ks.length=(Zk y l).ls.length
 sum:(Zk y l).ls.sum=(l.map y.xf).sum
 keys:(Zk y l).ks=(l.map y.kf).foldl Zo []
 at_:∀ key v,vat (Zk y l).ks (Zk y l).ls key=some v->v=((l.filter fun i=>decide (y.kf i=key)).map y.xf).sum
 km:∀ key,key ∈ (Zk y l).ks ↔ key ∈ l.map y.kf
 cc:(Zk y l).cc=(l.map y.cf).sum
 nc:(Zk y l).nc=(l.map y.xf).sum
 tt:(Zk y l).tt=(l.map y.tf).sum
 ct:(Zk y l).ct=(l.map y.gf).sum
theorem Ql{α:Type}(p:α->Bool)(l:List α)(a:α):(l++[a]).filter p=l.filter p++if p a then [a] else []:=by
 rw[List.filter_append];cases h:p a <;> simp[h]
theorem V7(y:Wy α):∀ l,F7 y l:=Q8 ⟨nodup_nil,rfl,rfl,rfl,fun k v h=>(by exact nsE h),fun key=>Iff.rfl,rfl,rfl,rfl,rfl⟩ fun l j ih=>by
 obtain⟨nd,len,sum,keys,at_,km,cc,nc,tt,ct⟩:=ih;have e:=Sz y l j;generalize Zk y l=b at *
 have ea:Sw b.ks b.ls [y.kf j] [y.xf j]=Zl (b.ks,b.ls) (y.kf j,y.xf j):=by
  unfold Sw;rw[Ym b.ks b.ls [] [] len (by exact nd)];rfl
 have e1:(Zk y (l++[j])).ks=Zo b.ks (y.kf j):=by
  rw[e];show(Sw _ _ [y.kf j] [y.xf j]).1=_;rw[ea];unfold Zl;split <;> rfl
 have e2:(Zk y (l++[j])).ls=vput b.ks b.ls (y.kf j) ((if y.kf j ∈ b.ks then (vat b.ks b.ls (y.kf j)).getD 0 else 0) + y.xf j):=by
  rw[e];show(Sw _ _ [y.kf j] [y.xf j]).2=_;rw[ea];unfold Zl
  by_cases h:y.kf j ∈ b.ks
  ·rw[if_pos h,if_pos h]
  ·rw[if_neg h,if_neg h,Int.zero_add]
 refine⟨by rw[e1];exact Pm nd _,by rw[e1,e2];exact W2 len,?_,by rw[e1,keys,map_append,foldl_append];rfl,?_,?_,?_,?_,?_,?_⟩
 ·rw[e2,map_append,sum_append,<- sum]
  by_cases h:y.kf j ∈ b.ks
  ·obtain⟨o,ho⟩:=Option.isSome_iff_exists.mp ((Xn len).trans (decide_eq_true h));rw[if_pos h,ho,show((some o).getD 0:Int)=o from rfl,Nr len nd ho];exact congrArg _ (add_zero _).symm
  ·rw[if_neg h];unfold vput;rw[if_neg h,sum_append,Int.zero_add];rfl
 ·intro key v hv;rw[e1,e2,Rd _ _ _ _ _ len] at hv;rw[Ql,map_append,sum_append]
  by_cases hk:y.kf j=key
  ·rw[if_pos hk] at hv;cases hv;have hd:decide (y.kf j=key)=true:=decide_eq_true hk;rw[if_pos hd]
   by_cases h:y.kf j ∈ b.ks
   ·obtain⟨o,ho⟩:=Option.isSome_iff_exists.mp ((Xn len).trans (decide_eq_true h));rw[if_pos h,ho];have:=at_ _ _ ho;rw[hk] at this;rw[<- this];exact congrArg _ (add_zero _).symm
   ·rw[if_neg h];have hn:(l.filter fun i=>decide (y.kf i=key))=[]:=List.filter_eq_nil_iff.mpr fun i hi q=>h ((km _).mpr (mem_map.mpr ⟨i,hi,(of_decide_eq_true q).trans hk.symm⟩));rw[hn];show(0:Int) + y.xf j=0 + (y.xf j + 0);rw[add_zero]
  ·rw[if_neg hk] at hv;have hd:¬ decide (y.kf j=key)=true:=by simpa using hk
   rw[if_neg hd,at_ _ _ hv];exact(add_zero _).symm
 ·intro key;rw[e1,Mp,km,map_append,mem_append];exact or_congr_right mem_singleton.symm
 ·rw[e,map_append,sum_append,<- cc];show y.cf j + b.cc=_;exact(add_comm ..).trans (congrArg _ (add_zero _).symm)
 ·rw[e,map_append,sum_append,<- nc];show y.xf j + b.nc=_;exact(add_comm ..).trans (congrArg _ (add_zero _).symm)
 ·rw[e,map_append,sum_append,<- tt];show y.tf j + b.tt=_;exact(add_comm ..).trans (congrArg _ (add_zero _).symm)
 ·rw[e,map_append,sum_append,<- ct];show y.gf j + b.ct=_;exact(add_comm ..).trans (congrArg _ (add_zero _).symm)
noncomputable def Ss(y:Wy α)(l:List α):List Str × List Int:=Z9 (l.map fun j=>(y.kf j,((l.filter fun i=>decide (y.kf i=y.kf j)).map y.xf).sum)) ([],[])
theorem L3(y:Wy α)(l:List α):(Ss y l).1=(Zk y l).ks:=by
 unfold Ss;rw[T5,map_map,(V7 y l).keys];rfl
theorem Kq(y:Wy α)(l:List α):(Ss y l).1.length=(Ss y l).2.length:=Wx _ _ rfl
theorem Iy(y:Wy α)(l:List α):∀ p ∈ (Zk y l).ks.zip (Zk y l).ls,vat (Ss y l).1 (Ss y l).2 p.1=some p.2:=fun p hp=>by
 have t:=V7 y l;have hv:=W0 t.nd hp;have hs:=t.at_ _ _ hv;obtain⟨j,hj,hk⟩:=mem_map.mp ((t.km p.1).mp (List.of_mem_zip hp).1);unfold Ss;refine Tl _ _ _ _ _ rfl (fun q hq hqk=>?_) (.inr ⟨_,mem_map_of_mem hj,hk⟩);obtain⟨i,hi,rfl⟩:=mem_map.mp hq;have hqk:y.kf i=p.1:=hqk;show((l.filter fun i'=>decide (y.kf i'=y.kf i)).map y.xf).sum=p.2;rw[hqk,hs]
noncomputable def Yl(y:Wy α)(l:List α):List Bk:=(List.range (l.length + 1)).map fun k=>Zk y (l.take k)
theorem V1(y:Wy α)(l:List α):(Yl y l).length=l.length + 1:=by unfold Yl;rw[length_map,length_range]
theorem Pv(y:Wy α)(l:List α)(j:α):Yl y (l++[j])=Yl y l++[Lc (Zk y l) (enB y j)]:=by
 unfold Yl;rw[length_append,List.length_singleton,range_succ,map_append];congr 1
 ·refine map_congr_left fun k hk=>?_;have:=mem_range.mp hk;rw[List.take_append_of_le_length (by exact le_of_lt_succ this)]
 ·show[Zk y ((l++[j]).take (l.length + 1))]=_;rw[take_of_length_le (by simp),Sz]
theorem Sh(y:Wy α)(l:List α):Yl y l=((List.range l.length).map fun k=>Zk y (l.take k))++[Zk y l]:=by
 unfold Yl;rw[range_succ,map_append];show _++[Zk y (l.take l.length)]=_;rw[take_length]
theorem Nw(y:Wy α)(l:List α):(Zk y l).ks.length ≤ l.length:=by
 revert l
 refine Q8 (le_refl 0) fun l j ih=>?_;rw[(V7 y _).keys,map_append,foldl_append,length_append];rw[(V7 y _).keys] at ih;have:=U2 ((l.map y.kf).foldl Zo []) (y.kf j);show(Zo ((l.map y.kf).foldl Zo []) (y.kf j)).length ≤ _;simp;exact(le_trans this (add_le_add_right ih _))
end
section
noncomputable def Zn(p:Nat × Nat)(k:Nat):Nat:=if k=0 then p.1 else p.2
noncomputable abbrev nt2(p:Nat × Nat):V:=.tup [nat p.1,nat p.2]
noncomputable abbrev dV(t:TD):V:=.sdict t.1 (t.2.map tv)
noncomputable def Rx(ar:List Str)(ψ:List Nat)(ax:List (Nat × Nat))(gs:List TD)(p:Nat × Nat):List TD:=
 gs.set (Zn (ax.getD p.1 (0,0)) p.2) (Uv (gs.getD (Zn (ax.getD p.1 (0,0)) p.2) ([],[])) ([ar.getD p.1 ""],[(1,(p.2:Int),(ψ.getD p.1 0:Nat))]))
noncomputable def Rk(ar:List Str)(ψ:List Nat)(ax:List (Nat × Nat))(gs:List TD)(u:Nat)(t:Nat):List TD:=(([0,1]:List Nat).take t).foldl (fun gs k=>Rx ar ψ ax gs (u,k)) gs
noncomputable def Y9(ar:List Str)(ψ:List Nat)(ax:List (Nat × Nat))(t:Nat):List TD:=(List.range t).foldl (fun gs u=>Rk ar ψ ax gs u 2) (replicate ar.length ([],[]))
theorem U0{l:List Str}(hn:l.Nodup){i:Nat}(h:i < l.length){j:Nat}(hj:j < l.length)(e:l.getD i "" =l.getD j ""):i=j:=by
 haveI h1:=Z8 ("" :Str) h
 haveI h2:=Z8 ("" :Str) hj
 rw[e] at h1;exact(List.getElem?_inj h hn).mp (h1.trans h2.symm)
theorem Wv{α β:Type}[DecidableEq α]{l:List α}{l':List β}(hn:l.Nodup)(hl:l.length=l'.length)(d:α)(e:β){i:Nat}(h:i < l.length):vat l l' (l.getD i d)=some (l'.getD i e):=
 W0 hn (List.mem_iff_getElem?.mpr ⟨i,getElem?_zip_eq_some.mpr ⟨Z8 d h,Z8 e (hl ▸ h)⟩⟩)
theorem Kc{l:List Str}{i:Nat}(h:i < l.length):Zo l (l.getD i "")=l:=by
 unfold Zo;rw[if_pos (mem_of_getElem? (Z8 ("" :Str) h))]
theorem O4{β:Type}{l:List Str}(hn:l.Nodup){vs:List β}(hl:l.length=vs.length){i:Nat}(h:i < l.length)(d:β):vput l vs (l.getD i "") d=vs.set i d:=by
 unfold vput;rw[if_pos (mem_of_getElem? (Z8 ("" :Str) h))];refine ext_getElem? fun j=>?_;rw[List.getElem?_zipWith,List.getElem?_set]
 by_cases hj:j < l.length
 ·rw[Z8 ("" :Str) hj,getElem?_eq_getElem (hl ▸ hj)]
  by_cases e:i=j
  ·subst e;rw[if_pos rfl,if_pos (hl ▸ hj)];simp
  ·rw[if_neg e];simp;intro q;exact absurd (U0 hn hj h q).symm e
 ·rw[getElem?_eq_none (not_lt.mp hj),getElem?_eq_none (hl ▸ not_lt.mp hj)]
  by_cases e:i=j
  ·subst e;exact absurd h hj
  ·rw[if_neg e]
theorem rowG_len{ar:List Str}{ψ:List Nat}{ax:List (Nat × Nat)}{u:Nat}:∀ {l:List Nat} {gs:List TD},(l.foldl (fun gs k=>Rx ar ψ ax gs (u,k)) gs).length=gs.length
 | [],_=>rfl
 | _::_,_=>by rw[foldl_cons,rowG_len];unfold Rx;rw[length_set]
theorem Xf{ar:List Str}{ψ:List Nat}{ax:List (Nat × Nat)}{t:Nat}:Y9 ar ψ ax (t + 1)=Rk ar ψ ax (Y9 ar ψ ax t) t 2:=by
 unfold Y9;rw[range_succ,foldl_append];rfl
theorem W3{ar:List Str}{ψ:List Nat}{ax:List (Nat × Nat)}:∀ {t:Nat},(Y9 ar ψ ax t).length=ar.length
 | 0=>length_replicate
 | t + 1=>by rw[Xf];exact rowG_len.trans W3
theorem N2{ar:List Str}{ψ:List Nat}{ax:List (Nat × Nat)}{gs:List TD}{u t k:Nat}(h:([0,1]:List Nat)[t]?=some k):Rk ar ψ ax gs u (t + 1)=Rx ar ψ ax (Rk ar ψ ax gs u t) (u,k):=by
 unfold Rk;rw[Za h,foldl_append];rfl
theorem Nm(a:TD)(p:Str × Int × Int × Int):(Uv a ([p.1],[p.2])).1.length ≤ a.1.length + 1:=by
 unfold Uv
 haveI h1:=Ys (a.1.zip a.2) (([],[]):TD)
 haveI h2:=W5 ([p.1].zip [p.2]) (Z9 (a.1.zip a.2) (([],[]):TD))
 rw[length_zip] at h1;exact le_trans h2 (add_le_add_right (le_trans h1 (le_trans (le_of_eq (zero_add _)) (min_le_left ..))) 1)
noncomputable def Gok(gs:List TD)(m:Nat):Prop:=∀ d ∈ gs,d.1.length ≤ m
theorem Gok.arc{ar:List Str}{ψ:List Nat}{ax:List (Nat × Nat)}{gs:List TD}{m:Nat}(h:Gok gs m)(p:Nat × Nat):Gok (Rx ar ψ ax gs p) (m + 1):=fun d hd=>by
 rcases List.mem_or_eq_of_mem_set hd with hd | rfl
 ·exact le_succ_of_le (h d hd)
 ·refine le_trans (Nm _ (ar.getD p.1 "",_)) (succ_le_succ ?_);rw[getD_eq_getElem?_getD];cases e:gs[Zn (ax.getD p.1 (0,0)) p.2]? with
  | none=>exact zero_le _
  | some d=>exact h d (mem_of_getElem? e)
theorem Gok.row{ar:List Str}{ψ:List Nat}{ax:List (Nat × Nat)}{u:Nat}:∀ {l:List Nat} {gs:List TD} {m:Nat},Gok gs m->Gok (l.foldl (fun gs k=>Rx ar ψ ax gs (u,k)) gs) (m + l.length)
 | [],_,_,h=>h
 | _::l,_,m,h=>by rw[foldl_cons,length_cons,Nat.add_comm l.length 1,<- add_assoc];exact Gok.row (h.arc _)
theorem Gok.graph{ar:List Str}{ψ:List Nat}{ax:List (Nat × Nat)}:∀ {t:Nat},Gok (Y9 ar ψ ax t) (2 * t)
 | 0=>fun d hd=>by rw[(List.mem_replicate.mp hd).2];exact zero_le _
 | t + 1=>by rw[Xf];exact Gok.row Gok.graph
theorem Of{α β:Type}(c:β):∀ l:List α,(l.map fun w=>(w,c))=l.zip (replicate l.length c)
 | []=>rfl
 | _::l=>congrArg (_::·) (Of c l)
noncomputable abbrev grL(ar:List Str)(ψ:List Nat)(ax:List (Nat × Nat))(D:Addr)(v1 v2 v3:Option V):List (Str × Option V):=
 [("words",some (.list (ar.map V.str))),("lines",some (.list (ψ.map nat))),("leads",some (.list (ax.map nt2))),("graph",some (.ref D)),("u",v1),("k",v2),("into",v3)]
section
variable{X:Cx}{B:St}{k:Nat}{P:V->St->Prop}
theorem sp_158(G:G3 X)(hG:GenOk X)(hA:Rm X.A (k + 3)){ar:List Str}{ψ:List Nat}{ax:List (Nat × Nat)}(hn:ar.Nodup)(hw:ar.length ≤ 5)(hll:ψ.length=ar.length)(hl:ax.length=ar.length)
  (hlt:∀ p ∈ ax,p.1 < ar.length /\ p.2 < ar.length) {rest:List (Addr × Cell)} (hm:B.mem=gtC::rest) (h:P (.sdict ar ((Y9 ar ψ ax ar.length).map dV)) B):CALL X (.ref 158) [.list (ar.map V.str),.list (ψ.map nat),.list (ax.map nt2)] B P:=by
 refine CALLR.call (CALLR.defG (ps:=["words", "lines", "leads"]) (loc:=[("words",some (.list (ar.map V.str))),("lines",some (.list (ψ.map nat))),("leads",some (.list (ax.map nt2))),("graph",none),("u",none),("k",none),("into",none)]) (cel:=[]) (sub:=[gtC]) (rest:=rest) G hA (Jz _) (o157 _) (Kl _) (b158 _) ?_ rfl ⟨rfl,rfl,rfl,trivial⟩ trivial hm ?_)
 ·refine lenC fun _=>lenC fun _=>lenC fun _=>Xb ?_;kernel_rfl
 intro L hR hh G'
 haveI hG':GenOk (X.callee (Kl X.w.params).1 L 158):=hG.callee
 haveI hw1:ar.length ≤ sizeLine:=Wf hw
 refine EX.frz ?_;walk_at"v";refine ES.asgDC ?_ (by walk_at"vside") (by walk_at"vside");refine CVG.dcsM (α:=Str) ?_ (by kernel_rfl) (by kernel_rfl) rfl (by intro _;rfl);walk_at"vs";refine⟨_,_,_,ar,V.str,fun w=>(w,.sdict [] []),fun _=>true,ITERC.list hh,by walk_at"vsc",hw1,?_,?_⟩
 ·intro C D c x hx;walk_at"vs";refine⟨rfl,?_⟩;refine(if_pos rfl).mpr ?_;walk_at"vs";refine⟨rfl,?_⟩;refine EV.dictES ?_;exact⟨rfl,by walk_at"vback"⟩
 refine⟨_,_,rfl,fun Dg=>?_⟩;rw[filter_eq_self.mpr fun _ _=>rfl]
 haveI e0:(Z9 (ar.map fun w=>(w,V.sdict [] [])) (([],[]):List Str × List V))=(ar,(Y9 ar ψ ax 0).map dV):=by
  rw[Of,Ym _ _ _ _ (by rw[length_replicate]) (by rw[nil_append];exact hn)];unfold Y9;rw[List.range_zero,List.foldl_nil,map_replicate];rfl
 rw[e0];walk_at"v";walk_at"v";refine ES.for hh ?_;refine EV.rangeC (by walk_at"vg") ?_;walk_at"vs";refine EV.lenC (by walk_at"vg") ?_;walk_at"vs";refine CALL.lenL (by rw[length_map];exact hw1) ?_;rw[length_map];walk_at"vs";refine CALL.range ?_;refine .jr hh (le_trans hw (by decide)) (fun _=>True) (fun t o=>⟨grL ar ψ ax Dg (o 0) (o 1) (o 2),[],[],[gtC,(Dg,.sdict ar ((Y9 ar ψ ax t).map dV))]⟩) [none,none,none] trivial rfl ?_ ?_
 ·intro u o hu _
  haveI hgl:=W3 (ar:=ar) (ψ:=ψ) (ax:=ax) (t:=u)
  haveI hgk:=Gok.graph (ar:=ar) (ψ:=ψ) (ax:=ax) (t:=u)
  haveI hp:=hlt _ (mem_of_getElem? (Z8 (0,0) (hl.symm ▸ hu)))
  haveI hu5:u ≤ 5:=le_trans (le_of_lt hu) hw
  rw[Xf];generalize Y9 ar ψ ax u=gs at *;walk_at"v";walk_at"v";refine ES.for hh ?_;refine EV.tup ?_;walk_at"vss";refine .js _ (ITER.tup hh) (fun _=>True) (fun i q=>⟨grL ar ψ ax Dg (some (nat u)) (q 0) (q 1),[],[],[gtC,(Dg,.sdict ar ((Rk ar ψ ax gs u i).map dV))]⟩) [o 1,o 2] trivial rfl ?_ ?_
  ·intro i di q hi _
   obtain⟨k,hk,rfl,hk2⟩:∃ k,([0,1]:List Nat)[i]?=some k /\ di=nat k /\ k < 2:=by
    match i,hi with
    | 0,hi=>exact⟨0,rfl,(Option.some.inj hi).symm,by decide⟩
    | 1,hi=>exact⟨1,rfl,(Option.some.inj hi).symm,by decide⟩
   haveI hs:Zn (ax.getD u (0,0)) k < ar.length:=by unfold Zn;split;exact hp.1;exact hp.2
   haveI hst:[nat (ax.getD u (0,0)).1,nat (ax.getD u (0,0)).2][k]?=some (nat (Zn (ax.getD u (0,0)) k)):=by
    match k,hk2 with
    | 0,_=>rfl
    | 1,_=>rfl
   haveI hrl:(Rk ar ψ ax gs u i).length=ar.length:=rowG_len.trans hgl
   haveI hrk:Gok (Rk ar ψ ax gs u i) (2 * u + (([0,1]:List Nat).take i).length):=Gok.row hgk
   rw[N2 hk];generalize Rk ar ψ ax gs u i=g at *;walk_at"vs";refine SUB.li u (0,0) rfl (hl.symm ▸ hu) (Wf (le_trans (le_of_eq hl) hw)) ?_;walk_at"vs";refine SUB.ti k rfl hst (by decide:2 ≤ sizeLine) ?_;refine SUB.li (Zn (ax.getD u (0,0)) k) "" rfl hs hw1 ?_;walk_at"vs";refine ES.asgSub ?_ (by walk_at"vside");refine EV.callG (by walk_at"vg") 56 (by walk_at"vgn") (o56 _) (f56 _) ?_;walk_at"vs";refine SUB.scell (d:=dV (g.getD (Zn (ax.getD u (0,0)) k) ([],[]))) (by walk_at"vm") ?_ ?_
   ·rw[Wu,Wv hn hrl.symm _ (([],[]):TD) hs];rfl
   walk_at"v";refine EV.dict1 fun b=>?_;walk_at"vs";refine SUB.li u "" rfl hu hw1 ?_;walk_at"vs";refine⟨rfl,_,rfl,?_⟩;walk_at"vs";refine SUB.li u 0 rfl (hll.symm ▸ hu) (Wf (le_trans (le_of_eq hll) hw)) ?_;walk_at"vss";refine⟨rfl,?_⟩;walk_at"vs"
   haveI hgk2:(g.getD (Zn (ax.getD u (0,0)) k) ([],[])).1.length ≤ 100:=by
    refine le_trans (hrk _ (mem_of_getElem? (Z8 _ (hrl.symm ▸ hs)))) (le_trans (add_le_add (mul_le_mul_left 2 hu5) (List.length_take_le _ _)) ?_)
    haveI:i ≤ 2:=le_of_lt (List.getElem?_eq_some_iff.mp hk).1
    exact le_trans (add_le_add_left this _) (by decide)
   refine sp_56t (a:=g.getD (Zn (ax.getD u (0,0)) k) ([],[])) (b:=([ar.getD u ""],[(1,(k:Int),(ψ.getD u 0:Nat))])) G' hG' hR (le_trans hgk2 (by decide)) (by decide:1 ≤ 1000000) rfl ?_;walk_at"vs";refine SETI.scell (by walk_at"vm") hw1 (by walk_at"vum") ?_;walk_at"vs";refine JS.at [some (nat k),some (.str (ar.getD (Zn (ax.getD u (0,0)) k) ""))] trivial ?_
   haveI e1:=Yw dV ar g (ar.getD (Zn (ax.getD u (0,0)) k) "") (Uv (g.getD (Zn (ax.getD u (0,0)) k) ([],[])) ([ar.getD u ""],[(1,(k:Int),(ψ.getD u 0:Nat))]))
   rw[O4 hn hrl.symm hs] at e1;rw[Kc hs];exact congrArg (fun x=>(⟨_,_,_,[gtC,(Dg,Cell.sdict ar x)]⟩:St)) e1
  ·intro q _;walk_at"vs";exact JS.at [_,_,_] trivial rfl
 ·intro o _;walk_at"vs";refine⟨Dg,_,⟨[("words",none),("lines",none),("leads",none),("graph",none),("u",none),("k",none),("into",none)],[],[],[gtC]⟩,_,⟨rfl,⟨_,.tail .here,.rest⟩,.drop (.drop (.drop (.drop (.drop (.drop (.drop .nil)))))),.nil,rfl⟩,.ret .at,?_⟩
  haveI e:B={B with mem:=gtC::rest}:=by rw[<- hm]
  rw[e] at h;exact h
end
end
section
noncomputable def Vm(kds:List Int)(who n:Nat):List Nat:=(List.range n).filter fun u=>kds.getD u 0 != 1 + (who:Int)
noncomputable def Xq(ax:List (Nat × Nat))(ξ:List Nat)(n:Nat):List Nat:=(List.range n).map fun u=>Zn (ax.getD u (0,0)) (ξ.getD u 0)
noncomputable def goF(ax:List (Nat × Nat))(oth:List Nat)(code:Nat)(g0:List Nat)(t:Nat):List Nat:=(List.range t).foldl (fun g k=>g.set (oth.getD k 0) (Zn (ax.getD (oth.getD k 0) (0,0)) (code / 2 ^ k &&& 1))) g0
noncomputable def Rp(a b:Nat):Nat:=if b < a then b else a
noncomputable def Ni(n:Nat)(s:List Nat × List Nat):List Nat × List Nat:=((List.range n).map fun u=>Rp (s.1.getD u 0) (s.1.getD (s.2.getD u 0) 0),(List.range n).map fun u=>s.2.getD (s.2.getD u 0) 0)
noncomputable def Wa(n:Nat)(s:List Nat × List Nat)(t:Nat):List Nat × List Nat:=(List.range t).foldl (fun s _=>Ni n s) s
noncomputable def J0(ω:List (Int × Int × Int))(who n:Nat)(s:List Nat × List Nat):List Nat:=(List.range n).filter fun u=>(ω.getD u (0,0,0)).2.2 == 0 && (((s.1.getD (s.2.getD u 0) 0 % 2:Nat):Int) != (who:Int))
noncomputable def Ng(who:Nat)(kds:List Int)(ψ:List Nat)(ax:List (Nat × Nat))(ξ:List Nat)(n code:Nat):List Nat × List Nat:=
 Wa n (ψ,goF ax (Vm kds who n) code (Xq ax ξ n) (Vm kds who n).length) 3
noncomputable abbrev beL(ψ:List Nat)(n:Nat)(oth:List Nat)(v1 v2 v3:Option V):List (Str × Option V):=[("lines",some (.list (ψ.map nat))),("size",some (nat n)),("others",some (.list (oth.map nat))),("code",v1),("k",v2),("step",v3)]
noncomputable abbrev beC(who:Nat)(kds:List Int)(ax:List (Nat × Nat))(ω:List (Int × Int × Int))(ξ:List Nat)(v1 v2:Option V):List (Str × Option V):=
 [("who",some (nat who)),("kinds",some (.list (kds.map V.int))),("leads",some (.list (ax.map nt2))),("marks",some (.list (ω.map tv))),("picks",some (.list (ξ.map nat))),("go",v1),("low",v2)]
theorem P8{p:Nat × Nat}{k:Nat}(h:k < 2):[nat p.1,nat p.2][k]?=some (nat (Zn p k)):=by
 match k,h with
 | 0,_=>rfl
 | 1,_=>rfl
theorem J3{a:Nat}:a &&& 1 < 2:=lt_succ_of_le Nat.and_le_right
theorem map_set{α β:Type}{f:α->β}{l:List α}{i:Nat}{a:α}:(l.set i a).map f=(l.map f).set i (f a):=List.map_set ..
theorem U6{ax:List (Nat × Nat)}{oth:List Nat}{code:Nat}{g0:List Nat}{t:Nat}:goF ax oth code g0 (t + 1)=(goF ax oth code g0 t).set (oth.getD t 0) (Zn (ax.getD (oth.getD t 0) (0,0)) (code / 2 ^ t &&& 1)):=by
 delta goF;rw[range_succ,foldl_append];rfl
theorem goF_len{ax:List (Nat × Nat)}{oth:List Nat}{code:Nat}{g0:List Nat}:∀ {t:Nat},(goF ax oth code g0 t).length=g0.length
 | 0=>rfl
 | t + 1=>by rw[U6,length_set];exact goF_len
theorem Vk{p:Nat × Nat}{k n:Nat}(h:p.1 < n /\ p.2 < n):Zn p k < n:=by delta Zn;split;exact h.1;exact h.2
theorem Mu{ax:List (Nat × Nat)}{oth:List Nat}{code n:Nat}{g0:List Nat}(hl:∀ p ∈ ax,p.1 < n /\ p.2 < n)(ho:∀ i,i < oth.length->oth.getD i 0 < ax.length)(h0:∀ x ∈ g0,x < n):∀ t,t ≤ oth.length->∀ x ∈ goF ax oth code g0 t,x < n
 | 0,_,x,hx=>h0 x hx
 | t + 1,ht,x,hx=>by
  rw[U6] at hx;rcases List.mem_or_eq_of_mem_set hx with hx | rfl
  ·exact Mu hl ho h0 t (le_of_succ_le ht) x hx
  ·exact Vk (hl _ (mem_of_getElem? (Z8 (0,0) (ho t ht))))
theorem Ki{ax:List (Nat × Nat)}{ξ:List Nat}{n:Nat}(hl:∀ p ∈ ax,p.1 < n /\ p.2 < n)(hd:ax.length=n):∀ x ∈ Xq ax ξ n,x < n:=fun x hx=>by
 obtain⟨u,hu,rfl⟩:=mem_map.mp hx;exact Vk (hl _ (mem_of_getElem? (Z8 (0,0) (hd.symm ▸ mem_range.mp hu))))
structure SOk(n:Nat)(s:List Nat × List Nat):Prop where
 l1:s.1.length=n
 l2:s.2.length=n
 lt:∀ x ∈ s.2,x < n
theorem Uo{n:Nat}{s:List Nat × List Nat}{t:Nat}:Wa n s (t + 1)=Ni n (Wa n s t):=by
 delta Wa;rw[range_succ,foldl_append];rfl
theorem SOk.dbl{n:Nat}{s:List Nat × List Nat}(h:SOk n s):∀ {t:Nat},SOk n (Wa n s t)
 | 0=>h
 | t + 1=>by
  haveI ih:=h.dbl (t:=t)
  rw[Uo]
  delta Ni
  refine⟨by rw[length_map,length_range],by rw[length_map,length_range],fun x hx=>?_⟩;obtain⟨u,hu,rfl⟩:=mem_map.mp hx
  haveI h1:=ih.lt _ (mem_of_getElem? (Z8 0 (ih.l2.symm ▸ mem_range.mp hu)))
  exact ih.lt _ (mem_of_getElem? (Z8 0 (ih.l2.symm ▸ h1)))
theorem K7(a b:Nat):V.int (if (b:Int) < (a:Int) then (b:Int) else (a:Int))=nat (Rp a b):=by
 delta Rp
 by_cases h:b < a
 ·rw[if_pos h,if_pos (ofNat_lt.mpr h)]
 ·rw[if_neg h,if_neg fun q=>h (ofNat_lt.mp q)]
section
variable{X:Cx}{B:St}{k:Nat}{P:V->St->Prop}
theorem sp_175(G:G3 X)(hA:Rm X.A (k + 3)){who n:Nat}{kds:List Int}{ψ:List Nat}{ax:List (Nat × Nat)}{ω:List (Int × Int × Int)}{ξ:List Nat}(hn:n ≤ 5)(hw:who < 2)(hk:kds.length=n)(hl:ψ.length=n)(hd:ax.length=n)(hm:ω.length=n)(hp:ξ.length=n)
  (hlt:∀ p ∈ ax,p.1 < n /\ p.2 < n) (hp2:∀ p ∈ ξ,p < 2) (hb:∀ code,J0 ω who n (Ng who kds ψ ax ξ n code)=[]) (h:P (.bool false) B):CALL X (.ref 175) [nat who,.list (kds.map V.int),.list (ψ.map nat),.list (ax.map nt2),.list (ω.map tv),.list (ξ.map nat)] B P:=by
 refine CALLR.call (CALLR.defG (ps:=["who", "kinds", "lines", "leads", "marks", "picks"]) (loc:=[("lines",some (.list (ψ.map nat))),("size",none),("others",none),("code",none),("k",none),("step",none)]) (cel:=[("who",some (nat who)),("kinds",some (.list (kds.map V.int))),("leads",some (.list (ax.map nt2))),("marks",some (.list (ω.map tv))),("picks",some (.list (ξ.map nat))),("go",none),("low",none)]) (sub:=[]) (rest:=B.mem) G hA (Jw _) (o174 _) (Im _) (b175 _) ?_ rfl ⟨rfl,trivial⟩ ⟨rfl,rfl,rfl,rfl,rfl,trivial⟩ rfl ?_)
 ·refine lenC fun _=>lenC fun _=>lenC fun _=>lenC fun _=>lenC fun _=>lenC fun _=>Xb ?_;kernel_rfl
 intro L hR hh G'
 haveI n40:n ≤ 2 ^ 20:=le_trans hn (by decide)
 haveI nsl:n ≤ sizeLine:=le_trans hn (by decide)
 walk_at"v";refine ES.asgSw (names:=["size", "others"]) hh ?_ (by walk_at"vside") (by walk_at"vside");walk_at"v";walk_at"v";refine EV.lenC (by walk_at"vg") ?_;walk_at"vs";refine CALL.lenL (by rw[length_map,hl];exact nsl) ?_;refine pq (by rw[length_map,hl]) ?_;walk_at"v";refine EV.lcf (α:=Nat) ?_ (by kernel_rfl) (by kernel_rfl) rfl (by intro _;rfl);refine EV.rangeC (by walk_at"vg") ?_;walk_at"vs";refine EV.lenC (by walk_at"vg") ?_;walk_at"vs";refine CALL.lenL (by rw[length_map,hl];exact nsl) ?_;refine pq (by rw[length_map,hl]) ?_;walk_at"vs";refine CALL.range ?_;refine⟨_,_,_,List.range n,nat,nat,fun u=>kds.getD u 0 != 1 + (who:Int),ITERC.rngN hh (le_trans n40 (by decide)),by walk_at"vsc",by rw[length_range];exact nsl,?_,?_⟩
 ·intro C D c u hu
  haveI hul:=mem_range.mp hu
  walk_at"vs";refine SUB.li u 0 rfl (by rw[hk];exact hul) (by rw[hk];exact nsl) ?_;walk_at"vs";refine⟨rfl,?_⟩;split
  ·walk_at"vs";exact⟨rfl,by walk_at"vback"⟩
  ·walk_at"vback"
 walk_at"vss";refine⟨_,rfl,rfl,?_⟩;show SNs _ ["others", "size"] [V.list ((Vm kds who n).map nat),nat n] _ _;refine SNs.cons ?_;walk_at"v";refine SNs.cons ?_;walk_at"v";refine SNs.nil ?_;walk_at"vs"
 haveI hol:(Vm kds who n).length ≤ n:=le_trans (length_filter_le _ _) (le_of_eq length_range)
 haveI hoe:∀ code,Ng who kds ψ ax ξ n code=Wa n (ψ,goF ax (Vm kds who n) code (Xq ax ξ n) (Vm kds who n).length) 3:=fun _=>rfl
 haveI hom:∀ x ∈ Vm kds who n,x < n:=fun x hx=>mem_range.mp (mem_filter.mp hx).1
 generalize Vm kds who n=oth at *;generalize Ng who kds ψ ax ξ n=en at *;refine ES.for hh ?_;refine EV.rangeC (by walk_at"vg") ?_;walk_at"vs";refine EV.lenC (by walk_at"vg") ?_;walk_at"vs";refine CALL.lenL (by rw[length_map];exact le_trans hol nsl) ?_;refine pq (by rw[length_map]) ?_;refine BIN.powN 2 ?_ (le_trans hol (le_trans hn (by decide))) (by decide);walk_at"vs";refine CALL.range ?_
 haveI hpw:2 ^ oth.length ≤ 2 ^ 5:=Nat.pow_le_pow_right (by decide) (le_trans hol hn)
 refine .jr hh (le_trans hpw (by decide)) (fun _=>True) (fun t o=>⟨beL ψ n oth (o 0) (o 1) (o 2),beC who kds ax ω ξ (o 3) (o 4),[],[]⟩) [none,none,none,none,none] trivial rfl ?_ ?_
 ·intro code o hu _
  haveI hb:=hb code
  rw[hoe code] at hb;walk_at"v";walk_at"v";refine ES.asg ?_ (by walk_at"vside") (by walk_at"vside") (by walk_at"vside");walk_at"v";walk_at"v";refine EV.lcfM (α:=Nat) ?_ (by kernel_rfl) (by kernel_rfl) rfl (by intro _;rfl);refine EV.rangeC (by walk_at"vg") ?_;walk_at"vs";refine CALL.range ?_;refine⟨_,_,_,List.range n,nat,fun u=>nat (Zn (ax.getD u (0,0)) (ξ.getD u 0)),fun _=>true,ITERC.rngN hh (le_trans n40 (by decide)),by walk_at"vsc",by rw[length_range];exact nsl,?_,?_⟩
  ·intro C D c u hu
   haveI hul:=mem_range.mp hu
   walk_at"vs";refine⟨rfl,?_⟩;refine(if_pos rfl).mpr ?_;walk_at"vs";refine SUB.li u (0,0) rfl (by rw[hd];exact hul) (by rw[hd];exact nsl) ?_;walk_at"vs";refine SUB.li u 0 rfl (by rw[hp];exact hul) (by rw[hp];exact nsl) ?_;refine SUB.ti (ξ.getD u 0) rfl (P8 (hp2 _ (mem_of_getElem? (Z8 0 (hp.symm ▸ hul))))) (by decide:2 ≤ sizeLine) ?_;exact⟨rfl,by walk_at"vback"⟩
  rw[filter_eq_self.mpr fun _ _=>rfl];intro Dg;walk_at"v";refine EV.callT (by walk_at"vg") "list" (by walk_at"vbn") ?_;walk_at"vs";refine CALL.listL (by rw[length_map,hl];exact nsl) fun Dl=>?_;walk_at"vss"
  haveI e0:(List.range n).map (fun u=>nat (Zn (ax.getD u (0,0)) (ξ.getD u 0)))=(goF ax oth code (Xq ax ξ n) 0).map nat:=by
   delta goF Xq
   rw[List.range_zero,List.foldl_nil,map_map];rfl
  rw[e0];refine ES.for hh ?_;refine EV.rangeC (by walk_at"vg") ?_;walk_at"vs";refine EV.lenC (by walk_at"vg") ?_;walk_at"vs";refine CALL.lenL (by rw[length_map];exact le_trans hol nsl) ?_;refine pq (by rw[length_map]) ?_;walk_at"vs";refine CALL.range ?_;refine .jr hh (le_trans (le_trans hol n40) (by decide)) (fun _=>True) (fun j q=>⟨beL ψ n oth (some (nat code)) (q 0) (o 2),beC who kds ax ω ξ (some (.ref Dg)) (some (.ref Dl)),[],[(Dg,.list ((goF ax oth code (Xq ax ξ n) j).map nat)),(Dl,.list (ψ.map nat))]⟩) [o 1] trivial rfl ?_ ?_
  ·intro j' q hjl _
   haveI hgl:(goF ax oth code (Xq ax ξ n) j').length=n:=goF_len.trans (by delta Xq;rw[length_map,length_range])
   haveI ho:=hom _ (mem_of_getElem? (Z8 0 hjl))
   rw[U6];generalize goF ax oth code (Xq ax ξ n) j'=g at *;walk_at"v";walk_at"v";refine ES.asgSub ?_ (by walk_at"vside");walk_at"vs";refine SUB.li j' 0 rfl hjl (le_trans hol nsl) ?_;refine SUB.li (oth.getD j' 0) (0,0) rfl (by rw[hd];exact ho) (by rw[hd];exact nsl) ?_;walk_at"vs";refine BIN.shrN ?_;walk_at"vs";refine BIN.bandN (b:=1) ?_;refine SUB.ti (code / 2 ^ j' &&& 1) rfl (P8 J3) (by decide:2 ≤ sizeLine) ?_;walk_at"vs";refine SUB.li j' 0 rfl hjl (le_trans hol nsl) ?_;refine SETI.list (by walk_at"vm") ⟨natCast_nonneg _,by rw[length_map,hgl];exact ofNat_lt.mpr ho⟩ (Int.lt_of_lt_of_le (ofNat_lt.mpr ho) (Int.le_trans (ofNat_le.mpr hn) (by decide))) (by walk_at"vum") ?_;walk_at"vs";refine JS.at [some (nat j')] trivial ?_;rw[toNat_natCast,<- map_set];rfl
  ·intro q _
   haveI hgl:(goF ax oth code (Xq ax ξ n) oth.length).length=n:=goF_len.trans (by delta Xq;rw[length_map,length_range])
   haveI hgo:∀ x ∈ goF ax oth code (Xq ax ξ n) oth.length,x < n:=Mu (fun p hp'=>hlt p hp') (fun i hi=>by rw[hd];exact hom _ (mem_of_getElem? (Z8 0 hi))) (Ki hlt hd) oth.length (le_refl _)
   generalize goF ax oth code (Xq ax ξ n) oth.length=g at *;walk_at"v";refine J.frz (a:=Dg) (c:=.list (g.map nat)) (B2:=⟨beL ψ n oth (some (nat code)) (q 0) (o 2),beC who kds ax ω ξ (some (.list (g.map nat))) (some (.ref Dl)),[],[(Dl,.list (ψ.map nat))]⟩) ⟨rfl,⟨_,.here,.rest⟩,FzE.refl _,.same (.same (.same (.same (.same (.cons .at (.same .nil)))))),rfl⟩ ?_;refine J.frz (a:=Dl) (c:=.list (ψ.map nat)) (B2:=⟨beL ψ n oth (some (nat code)) (q 0) (o 2),beC who kds ax ω ξ (some (.list (g.map nat))) (some (.list (ψ.map nat))),[],[]⟩) ⟨rfl,⟨_,.here,.rest⟩,FzE.refl _,.same (.same (.same (.same (.same (.same (.cons .at .nil)))))),rfl⟩ ?_;refine ES.for hh ?_;refine EV.rangeC (by walk_at"vg") ?_;walk_at"vs";refine CALL.range ?_
   haveI s0:SOk n (ψ,g):=⟨hl,hgl,hgo⟩
   refine .jr (n:=3) hh (by decide) (fun _=>True) (fun t r2=>⟨beL ψ n oth (some (nat code)) (q 0) (r2 0),beC who kds ax ω ξ (some (.list ((Wa n (ψ,g) t).2.map nat))) (some (.list ((Wa n (ψ,g) t).1.map nat))),[],[]⟩) [o 2] trivial rfl ?_ ?_
   ·intro t r2 _ _;obtain⟨q1,q2,q3⟩:=s0.dbl (t:=t);rw[Uo];generalize Wa n (ψ,g) t=y at *
    haveI qg:∀ u,u < n->y.2.getD u 0 < n:=fun u hu=>q3 _ (mem_of_getElem? (Z8 0 (q2.symm ▸ hu)))
    walk_at"v";walk_at"v";refine ES.asg ?_ (by walk_at"vside") (by walk_at"vside") (by walk_at"vside");refine EV.lcm (α:=Nat) ?_ (by kernel_rfl) (by kernel_rfl) rfl (by intro _;rfl);refine EV.rangeC (by walk_at"vg") ?_;walk_at"vs";refine CALL.range ?_;refine⟨_,_,_,List.range n,nat,fun u=>nat (Rp (y.1.getD u 0) (y.1.getD (y.2.getD u 0) 0)),ITERC.rngN hh (le_trans n40 (by decide)),by walk_at"vsc",by rw[length_range];exact nsl,?_,?_⟩
    ·intro C D c u hu
     haveI hul:=mem_range.mp hu
     walk_at"vs";refine EV.callB (by walk_at"vg") "min" (by walk_at"vbn") ?_;walk_at"vs";refine SUB.li u 0 rfl (by rw[q1];exact hul) (by rw[q1];exact nsl) ?_;walk_at"vs";refine SUB.li u 0 rfl (by rw[q2];exact hul) (by rw[q2];exact nsl) ?_;refine SUB.li (y.2.getD u 0) 0 rfl (by rw[q1];exact qg u hul) (by rw[q1];exact nsl) ?_;walk_at"vs";refine CALL.min2 hh ?_;exact⟨K7 _ _,by walk_at"vback"⟩
    walk_at"vs";refine EV.lcm (α:=Nat) ?_ (by kernel_rfl) (by kernel_rfl) rfl (by intro _;rfl);refine EV.rangeC (by walk_at"vg") ?_;walk_at"vs";refine CALL.range ?_;refine⟨_,_,_,List.range n,nat,fun u=>nat (y.2.getD (y.2.getD u 0) 0),ITERC.rngN hh (le_trans n40 (by decide)),by walk_at"vsc",by rw[length_range];exact nsl,?_,?_⟩
    ·intro C D c u hu
     haveI hul:=mem_range.mp hu
     walk_at"vs";refine SUB.li u 0 rfl (by rw[q2];exact hul) (by rw[q2];exact nsl) ?_;refine SUB.li (y.2.getD u 0) 0 rfl (by rw[q2];exact qg u hul) (by rw[q2];exact nsl) ?_;exact⟨rfl,by walk_at"vback"⟩
    walk_at"vs";refine JS.at [some (nat t)] trivial ?_
    delta Ni
    rw[map_map,map_map];rfl
   ·intro r2 _;obtain⟨q1,q2,q3⟩:=s0.dbl (t:=3);generalize Wa n (ψ,g) 3=y at *
    haveI qg:∀ u,u < n->y.2.getD u 0 < n:=fun u hu=>q3 _ (mem_of_getElem? (Z8 0 (q2.symm ▸ hu)))
    walk_at"vs";refine EV.lcf (α:=Nat) ?_ (by kernel_rfl) (by kernel_rfl) rfl (by intro _;rfl);refine EV.rangeC (by walk_at"vg") ?_;walk_at"vs";refine CALL.range ?_;refine⟨_,_,_,List.range n,nat,nat,fun u=>(ω.getD u (0,0,0)).2.2 == 0 && (((y.1.getD (y.2.getD u 0) 0 % 2:Nat):Int) != (who:Int)),ITERC.rngN hh (le_trans n40 (by decide)),by walk_at"vsc",by rw[length_range];exact nsl,?_,?_⟩
    ·intro C D c u hu
     haveI hul:=mem_range.mp hu
     walk_at"v";refine TS.one (ET.and2 (b1:=(ω.getD u (0,0,0)).2.2 == 0) (b2:=((y.1.getD (y.2.getD u 0) 0 % 2:Nat):Int) != (who:Int)) ?_ ?_ ?_)
     ·walk_at"vs";refine SUB.li u (0,0,0) rfl (by rw[hm];exact hul) (by rw[hm];exact nsl) ?_;walk_at"vs";refine SUB.ti 2 rfl rfl (by decide:3 ≤ sizeLine) ?_;walk_at"vs";exact⟨rfl,rfl⟩
     ·walk_at"vs";refine SUB.li u 0 rfl (by rw[q2];exact hul) (by rw[q2];exact nsl) ?_;refine SUB.li (y.2.getD u 0) 0 rfl (by rw[q1];exact qg u hul) (by rw[q1];exact nsl) ?_;walk_at"vs";refine BIN.modN 2 ?_ (by decide);walk_at"vs";exact⟨rfl,rfl⟩
     refine⟨rfl,?_⟩;split
     ·walk_at"vs";exact⟨rfl,by walk_at"vback"⟩
     ·walk_at"vback"
    refine pq (by rw[show(List.range n).filter (fun u=>(ω.getD u (0,0,0)).2.2 == 0 && (((y.1.getD (y.2.getD u 0) 0 % 2:Nat):Int) != (who:Int)))=J0 ω who n y from rfl,hb]) ?_;walk_at"vs";refine EV.list ?_;walk_at"vss";refine CMP.nev 2 hR (b:=true) rfl ?_;walk_at"vs";refine(if_neg (by decide)).mpr ?_;walk_at"vs";exact JS.at [some (nat code),q 0,r2 0,some (.list (y.2.map nat)),some (.list (y.1.map nat))] trivial rfl
 ·intro o _;walk_at"vs";exact h
end
end
section
section
variable{X:Cx}{B:St}{k:Nat}{P:V->St->Prop}
inductive GTK(X:Cx)(a:LxA)(P:V->St->Prop)(d:V)(B1:St):Prop
 | mk (i:Int) (t:List Nat) (p:List V) (pre post:List (Addr × Cell)) (hd:d=.ref a.L) (hm:B1.mem=pre++Zp (qL X.w.params) a i t p++post) (hs:t.length ≤ sizeLine) (hsp:p.length ≤ sizeLine)
  (h0:p=[]->P (.str (tx (Zf t).1)) {B1 with mem:=pre++Zp (qL X.w.params) a (i + nl t - nl (Zf t).2) (Zf t).2 []++post})
  (h1:∀ d p',p=d::p'->P d {B1 with mem:=pre++Zp (qL X.w.params) a i t p'++post})
inductive PTK(X:Cx)(a:LxA)(arg:PySem.Expr)(P:V->St->Prop)(d:V)(B1:St):Prop
 | mk (i:Int) (t:List Nat) (p:List V) (pre post:List (Addr × Cell)) (hd:d=.ref a.L) (hm:B1.mem=pre++Zp (qL X.w.params) a i t p++post) (hsp:p.length ≤ sizeLine)
  (h:EV X arg B1 fun dv B2=>B2.mem=B1.mem /\ P .none {B2 with mem:=pre++Zp (qL X.w.params) a i t (p++[dv])++post})
theorem EV.getTok(G:G3 X)(hA:Rm X.A (k + 5)){a:LxA}(hok:Ux X.w.params a){o:PySem.Expr}{apos pos:Pos}(h:EV X o B (GTK X a P))
  (hbase:∀ env,attributeBase o "get_token" env (eval o env)=eval o env:=by intro _;rfl)
  (hline:(apos.endLine == pos.line)=true:=by rfl):EV X (.Call (.Attribute o "get_token" apos) [] [] pos) B P:=by
 refine EV.methU (y:=Option.none) 101 100 _ 91 (Y7 G) (by kernel_rfl) (by kernel_rfl) (by kernel_rfl) (G.K _ _ (o91 _).2) (by kernel_rfl) (by rw[typeLookup_type,builtinLookup_eq_fast];kernel_rfl) (J.mono h fun d B1 h1=>?_) hbase (fun env=>rfl) hline;obtain⟨i,t,p,pre,post,rfl,hm,hs,hsp,h0,h1⟩:=h1;refine⟨a.L,a.dx,nsL a i,rfl,by rw[hm];walk_at"vm",by rw[hm];walk_at"vm",(by simp only[List.map];decide +kernel),?_⟩;walk_at"vs";refine⟨Keep.func (G.K _ _ (o91 _).2) (f91 X.w.params).2 (Y6 (n:= "function") (by kernel_rfl)),?_⟩;exact sp_91 (k:=k) G hA hok hm hs hsp h0 h1
theorem EV.pushTok(G:G3 X)(hA:Rm X.A (k + 1)){a:LxA}{o arg:PySem.Expr}{apos pos:Pos}(h:EV X o B (PTK X a arg P))
  (hbase:∀ env,attributeBase o "push_token" env (eval o env)=eval o env:=by intro _;rfl)
  (hfew:∀ env,((backTo pos (starEach [arg] env)).all (fun x=>!x.1) && (backToKw pos (keywordEach [] env)).all (fun x=>x.1.isSome)
   && decide ([arg].length + ([]:List Keyword).length + (if ([]:List Keyword).isEmpty then 0 else 1) < 30))=true:=by intro _;rfl)
  (hline:(apos.endLine == pos.line)=true:=by rfl) (hp:∀ env,(starEach [arg] env).any (·.1)=false:=by intro _;rfl)
  (hst:∀ env,starEach [arg] env=(false,eval arg env)::starEach [] env:=by intro _;rfl):EV X (.Call (.Attribute o "push_token" apos) [arg] [] pos) B P:=by
 refine EV.methU (y:=Option.none) 101 100 _ 98 (Y7 G) (by kernel_rfl) (by kernel_rfl) (by kernel_rfl) (G.K _ _ (o98 _).2) (by kernel_rfl) (by rw[typeLookup_type,builtinLookup_eq_fast];kernel_rfl) (J.mono h fun d B1 h1=>?_) hbase hfew hline hp;obtain⟨i,t,p,pre,post,rfl,hm,hsp,h1⟩:=h1;refine⟨a.L,a.dx,nsL a i,rfl,by rw[hm];walk_at"vm",by rw[hm];walk_at"vm",(by simp only[List.map];decide +kernel),?_⟩;refine EVs.cons (J.mono h1 fun dv B2 h2=>EVs.nil ?_) hst;obtain⟨hm2,h2⟩:=h2;rw[hm] at hm2;refine⟨Keep.func (G.K _ _ (o98 _).2) (f98 X.w.params).2 (Y6 (n:= "function") (by kernel_rfl)),?_⟩;exact sp_98 (k:=k) (x:=a.L) (dx:=a.dx) (pb:=a.pb) (l:=p) (ln:=i) G hA (by rw[hm2];walk_at"vm") (by rw[hm2];walk_at"vm") (by rw[hm2];walk_at"vm") (by rw[hm2];walk_at"vum") hsp h2
end
end
section
noncomputable def isI(k:Int):V->Bool
 | .int i=>i == k
 | _=>false
noncomputable def isS(k:Str):V->Bool
 | .str i=>i == k
 | _=>false
theorem Jc(x:Nat)(l:List Nat):(l.map nat).any (isI x)=decide (x ∈ l):=by
 rw[List.any_map,Bool.eq_iff_iff,List.any_eq_true,decide_eq_true_eq]
 constructor
 ·rintro⟨y,hy,e⟩
  haveI:((y:Int) == (x:Int))=true:=e
  rw[beq_iff_eq] at this
  haveI:y=x:=by exact ofNat_inj.mp this
  exact this ▸ hy
 ·intro h;exact⟨x,h,by show((x:Int) == (x:Int))=true;exact beq_self_eq_true _⟩
theorem Tg(x:Int)(l:List Nat):∀ d ∈ l.map nat,veq 1 d (.int x)=some (isI x d):=fun d hd=>by obtain⟨v,_,rfl⟩:=mem_map.mp hd;rfl
theorem Ih(x:Str)(l:List Str):∀ d ∈ l.map V.str,veq 1 d (.str x)=some (isS x d):=fun d hd=>by obtain⟨v,_,rfl⟩:=mem_map.mp hd;rfl
theorem Kh{w:Str}:∀ {l:List Str},w ∈ l->((l.map V.str).map (isS w)).findIdx? id=some (l.idxOf w):=by
 intro l
 induction l with
 | nil=>intro h;exact mnE h
 | cons a l ih=>
  intro h;rw[map_cons,map_cons,List.findIdx?_cons,List.idxOf_cons];show(if id (a == w) then some 0 else _)=_
  by_cases e:a=w
  ·subst e;rw[beq_self_eq_true];rfl
  ·haveI hl:w ∈ l:=by rcases mem_cons.mp h with h | h;exact absurd h.symm e;exact h
   rw[ih hl]
   haveI:(a == w)=false:=by exact if_neg (by assumption)
   rw[this];rfl
theorem Mt{l:List Str}(h:l.Nodup){u:Nat}(hu:u < l.length):l.getD u "" ∈ l /\ l.idxOf (l.getD u "")=u:=by
 haveI e:l.getD u "" =l[u]:=by rw[getD_eq_getElem?_getD,getElem?_eq_getElem hu];rfl
 rw[e];exact⟨getElem_mem hu,h.idxOf_getElem u hu⟩
noncomputable def wV(ar:List Str)(u:Nat):V:=.str (ar.getD u "")
theorem Un{α:Type}(d:α):∀ (l:List α) (i:Nat),i < l.length->l.drop i=l.getD i d::l.drop (i + 1)
 | [],_,h=>by simp at h
 | a::l,0,_=>rfl
 | a::l,i + 1,h=>Un d l i (by simpa using h)
structure RunI where
 who:Nat
 ar:List Str
 ay:List Str
 ss:List Int
 kds:List Int
 ψ:List Nat
 ax:List (Nat × Nat)
 gr:List TD
namespace RunI
variable(R:RunI)
noncomputable def n:Nat:=R.ar.length
noncomputable def τ:List Nat:=R.ψ.map (· + R.who)
noncomputable def ρ:List Int:=R.kds.map fun k=>(3 - 2 * k) * (1 - 2 * (R.who:Int))
noncomputable def t0:Nat:=R.τ.countP fun(r:Nat)=>(r:Int) == 1
noncomputable def t1:Nat:=R.τ.countP fun(r:Nat)=>(r:Int) == 3
noncomputable def κ:List Nat:=R.τ.map fun r=>1 + (r + 1) / 2
noncomputable def cs(u:Nat):List (Nat × Int):=[(2,R.ρ.getD u 0),(1, -R.ρ.getD u 0),(0,R.ρ.getD u 0)].take (R.κ.getD u 0)
end RunI
noncomputable def riC:List (Nat × Int):=[(2,1),(1, -1),(0,1)]
structure RunOk(R:RunI):Prop where
 n5:1 ≤ R.n /\ R.n ≤ 5
 nd:R.ar.Nodup
 hw:R.who < 2
 kl:R.kds.length=R.n
 k2:∀ k ∈ R.kds,k=1 \/ k=2
 ll:R.ψ.length=R.n
 l4:∀ l ∈ R.ψ,l < 4
 dl:R.ax.length=R.n
 lt:∀ p ∈ R.ax,p.1 < R.n /\ p.2 < R.n
 gl:R.gr.length=R.n
namespace RunOk
variable{R:RunI}(h:RunOk R)
include h
theorem nsl:R.n ≤ sizeLine:=le_trans h.n5.2 (by decide)
theorem n40:R.n ≤ 2 ^ 20:=le_trans h.n5.2 (by decide)
theorem rl:R.τ.length=R.n:=by unfold RunI.τ;rw[length_map,h.ll]
theorem sl:R.ρ.length=R.n:=by unfold RunI.ρ;rw[length_map,h.kl]
theorem cl:R.κ.length=R.n:=by unfold RunI.κ;rw[length_map,h.rl]
end RunOk
noncomputable abbrev ruL(R:RunI)(L:Addr)(sz ra co ri to pu ca wo st be ma rs cl rg pi su w cs sg le ot:Option V:=none):List (Str × Option V):=
 [("lexer",some (.ref L)),("symbols",some (.sdict R.ay (R.ss.map V.int))),("kinds",some (.list (R.kds.map V.int))),("graph",some (.sdict R.ar (R.gr.map dV))),("size",sz),("ranks",ra),("comps",co),("rise",ri),("told",to),("pushed",pu),("calls",ca),
  ("word",wo),("step",st),("best",be),("mark",ma),("risen",rs),("caller",cl),("right",rg),("picks",pi),("sums",su),("w",w),("callers",cs),("sign",sg),("left",le),("other",ot)]
noncomputable abbrev ruC(R:RunI)(si tp co mk bk tk u:Option V:=none):List (Str × Option V):=
 [("who",some (nat R.who)),("words",some (.list (R.ar.map V.str))),("lines",some (.list (R.ψ.map nat))),("leads",some (.list (R.ax.map nt2))),("sides",si),("tops",tp),("columns",co),("marks",mk),("books",bk),("taken",tk),("u",u)]
noncomputable abbrev szR(R:RunI):Option V:=some (nat R.n)
noncomputable abbrev raR(R:RunI):Option V:=some (.list (R.τ.map nat))
noncomputable abbrev siR(R:RunI):Option V:=some (.list (R.ρ.map V.int))
noncomputable abbrev tpR(R:RunI):Option V:=some (.tup [nat R.t0,nat R.t1])
noncomputable abbrev coR(R:RunI):Option V:=some (.list (R.κ.map nat))
noncomputable abbrev Ls(P:Params):List Stmt:=(F1 P).1
noncomputable def J7(P:Params)(i:Nat):Stmt:=(Ls P).getD i (.Pass ⟨0,0,0,0⟩)
theorem M7(P:Params):(Ls P).length=10:=by kernel_rfl
structure RS(X:Cx)(i:Nat)(B:St)(Q:Fl->St->Prop):Prop where
 out:ES X (J7 X.w.params i) B Q
structure RW(X:Cx)(i:Nat)(B:St)(Q:Fl->St->Prop):Prop where
 out:EX X ((Ls X.w.params).drop i) B Q
noncomputable def Hm(X:Cx)(i:Nat)(Q:Fl->St->Prop)(f:Fl)(B:St):Prop:=match f with
 | .next=>RW X (i + 1) B Q
 | f=>Q f B
theorem RW.step{X:Cx}{B:St}{Q:Fl->St->Prop}(i:Nat)(hi:i < 10)(h:RS X i B (Hm X i Q)):RW X i B Q:=by
 refine⟨?_⟩;rw[Un (.Pass ⟨0,0,0,0⟩) (Ls X.w.params) i (by rw[M7];exact hi)];refine EX.cons (J.mono h.out fun f B1 hq=>?_);cases f with
 | next=>exact RW.out hq
 | _=>exact hq
section
variable{X:Cx}{B:St}{k:Nat}{L:Addr}{Q:Fl->St->Prop}{R:RunI}{a:LxA}{m:List (Addr × Cell)}
theorem RS.i(G:G3 X)(hA:Rm X.A (k + 7)){i:Nat}{B:St}(h:Rm (X.callee (Xu X.w.params).1 L 170).A (k + 6)->(X.callee (Xu X.w.params).1 L 170).A.handled=none->G3 (X.callee (Xu X.w.params).1 L 170)->ES (X.callee (Xu X.w.params).1 L 170) (J7 X.w.params i) B Q):RS (X.callee (Xu X.w.params).1 L 170) i B Q:=⟨h hA.deeper hA.deeper.handled G.callee⟩
theorem Hg(G:G3 X)(hA:Rm X.A (k + 7))(hR0:RunOk R)(h:Q .next ⟨ruL R a.L (szR R) (raR R),ruC R (siR R),[],m⟩):RS (X.callee (Xu X.w.params).1 L 170) 0 ⟨ruL R a.L,ruC R,[],m⟩ Q:=by
 refine RS.i G hA fun hR hh G'=>?_;walk_at"vag";walk_at"v";walk_at"v";refine EV.lenC (by walk_at"vg") ?_;walk_at"vs";refine CALL.lenL (by rw[length_map];exact hR0.nsl) ?_;refine pq (by rw[length_map]) ?_;walk_at"v";refine EV.lcm (α:=Nat) ?_ (by kernel_rfl) (by kernel_rfl) rfl (by intro _;rfl);walk_at"vs";refine⟨_,_,_,R.ψ,nat,nat ∘ (· + R.who),ITERC.list hh,by walk_at"vsc",by rw[hR0.ll];exact hR0.nsl,?_,?_⟩
 ·intro C D c l hl;walk_at"vs";exact⟨rfl,by walk_at"vback"⟩
 walk_at"v";refine EV.lcm (α:=Int) ?_ (by kernel_rfl) (by kernel_rfl) rfl (by intro _;rfl);walk_at"vs";refine⟨_,_,_,R.kds,V.int,V.int ∘ fun k=>(3 - 2 * k) * (1 - 2 * (R.who:Int)),ITERC.list hh,by walk_at"vsc",by rw[hR0.kl];exact hR0.nsl,?_,?_⟩
 ·intro C D c l hl
  haveI hl2:=hR0.k2 l hl
  walk_at"vs";refine BIN.mul ?_ (by decide);walk_at"vs";refine BIN.mul ?_ (by decide);walk_at"vs";refine BIN.mul ?_ (by rcases hl2 with rfl | rfl <;> decide);exact⟨rfl,by walk_at"vback"⟩
 rw[<- map_map,<- map_map];walk_at"vss";exact h
theorem Hf(G:G3 X)(hA:Rm X.A (k + 7))(hR0:RunOk R)(h:Q .next ⟨ruL R a.L (szR R) (raR R),ruC R (siR R) (tpR R) (coR R),[],m⟩):RS (X.callee (Xu X.w.params).1 L 170) 1 ⟨ruL R a.L (szR R) (raR R),ruC R (siR R),[],m⟩ Q:=by
 refine RS.i G hA fun hR hh G'=>?_
 haveI cnt:∀ {i:Int} {P:V->St->Prop} {B1:St},P (.int (R.τ.countP fun(r:Nat)=>(r:Int) == i:Nat)) B1->CALL (X.callee (Xu X.w.params).1 L 170) (.builtin "list.count") [.list (R.τ.map nat),.int i] B1 P:=fun {i} _ _ hp=>by
  refine CALL.count 1 hR (f:=isI i) (fun d hd=>by obtain⟨x,_,rfl⟩:=mem_map.mp hd;rfl) ?_;rw[countP_map];exact hp
 walk_at"vag";walk_at"v";walk_at"v";walk_at"v";walk_at"v";refine EV.meth "list" "list.count" F.plainAttrs_list F.slot_list_count F.type_list_count ?_;walk_at"v";refine⟨TypeV.list,?_⟩;walk_at"vs";refine cnt ?_;walk_at"v";refine EV.meth "list" "list.count" F.plainAttrs_list F.slot_list_count F.type_list_count ?_;walk_at"v";refine⟨TypeV.list,?_⟩;walk_at"vs";refine cnt ?_;walk_at"vss";refine EV.lcm (α:=Nat) ?_ (by kernel_rfl) (by kernel_rfl) rfl (by intro _;rfl);walk_at"vs";refine⟨_,_,_,R.τ,nat,nat ∘ fun r=>1 + (r + 1) / 2,ITERC.list hh,by walk_at"vsc",by rw[hR0.rl];exact hR0.nsl,?_,?_⟩
 ·intro C D c r hr;walk_at"vs";refine BIN.divN (a:=r + 1) 2 ?_ (by decide);walk_at"vs";exact⟨rfl,by walk_at"vback"⟩
 refine pq (by rw[<- map_map]) ?_;walk_at"vss";exact h
end
end
section
noncomputable def mkC(R:RunI)(r:Addr × Addr)(u:Nat):List (Addr × Cell):=[(r.1,.raw (·=instObj 38 r.2)),(r.2,.ns [("comp_select_list",.list ((R.cs u).map csV))])]
noncomputable def Se(R:RunI)(rs:List (Addr × Addr)):List (Addr × Cell):=(rs.zip (List.range R.n)).flatMap fun p=>mkC R p.1 p.2
noncomputable abbrev cpR(rs:List (Addr × Addr)):Option V:=some (.list (rs.map fun r=>V.ref r.1))
theorem cs_V(R:RunI)(u:Nat)(h:R.κ.getD u 0 ≤ 3):X3 [V.tup [.int 2,.int (R.ρ.getD u 0)],.tup [.int 1,.int (-R.ρ.getD u 0)],.tup [.int 0,.int (R.ρ.getD u 0)]] Option.none (some ((R.κ.getD u 0:Nat):Int)) Option.none=(R.cs u).map csV:=by
 rw[S1 h];unfold RunI.cs;rw[map_take];rfl
theorem RunOk.c3{R:RunI}(h:RunOk R)(u:Nat):R.κ.getD u 0 ≤ 3:=by
 rw[getD_eq_getElem?_getD];cases e:R.κ[u]? with
 | none=>exact zero_le _
 | some c=>
  obtain⟨r,hr,rfl⟩:=mem_map.mp (mem_of_getElem? e);obtain⟨l,hl,rfl⟩:=mem_map.mp hr
  haveI h1:=h.l4 l hl
  haveI h2:=h.hw
  show 1 + (l + R.who + 1) / 2 ≤ 3
  omega
section
variable{X:Cx}{B:St}{k:Nat}{L:Addr}{Q:Fl->St->Prop}{R:RunI}{a:LxA}{m:List (Addr × Cell)}
theorem He(G:G3 X)(hA:Rm X.A (k + 7))(hR0:RunOk R)(h:∀ rs:List (Addr × Addr),rs.length=R.n->Q .next ⟨ruL R a.L (szR R) (raR R) (cpR rs),ruC R (siR R) (tpR R) (coR R),[],m++Se R rs⟩):RS (X.callee (Xu X.w.params).1 L 170) 2 ⟨ruL R a.L (szR R) (raR R),ruC R (siR R) (tpR R) (coR R),[],m⟩ Q:=by
 refine RS.i G hA fun hR hh G'=>?_;refine ES.asgLC ?_ (by walk_at"vside") (by walk_at"vside");refine CVG.lck (α:=Nat) (mkC R) ?_ (by kernel_rfl) (by kernel_rfl) rfl (by intro _;rfl);refine EV.rangeC (by walk_at"vg") ?_;walk_at"vs";refine CALL.range ?_;refine⟨List.range R.n,nat,_,_,_,ITERC.rngN hh (le_trans hR0.n40 (by decide)),by walk_at"vsc",by rw[length_range];exact hR0.nsl,?_,?_⟩
 ·intro C u m hu
  haveI hul:=mem_range.mp hu
  walk_at"v";refine EV.call38 (by walk_at"vg") (by walk_at"vgn") ?_;walk_at"v";walk_at"v";refine EV.list ?_;walk_at"vs";refine SUB.li u 0 rfl (by rw[hR0.sl];exact hul) (by rw[hR0.sl];exact hR0.nsl) ?_;walk_at"vss";refine SUB.li u 0 rfl (by rw[hR0.sl];exact hul) (by rw[hR0.sl];exact hR0.nsl) ?_;walk_at"vss";refine SUB.li u 0 rfl (by rw[hR0.sl];exact hul) (by rw[hR0.sl];exact hR0.nsl) ?_;walk_at"vss";refine SUB.li u 0 rfl (by rw[hR0.cl];exact hul) (by rw[hR0.cl];exact hR0.nsl) ?_;refine⟨_,rfl,?_⟩;walk_at"vs";refine SUB.sliceL (st:=Option.none) (by decide:3 ≤ sizeLine) (fun q=>nomatch q) ?_;rw[cs_V R u (hR0.c3 u)];walk_at"vs";refine Hp (k:=k + 4) (G3.comp G') hR fun x dx=>?_;exact⟨(x,dx),rfl,by walk_at"vback"⟩
 ·intro D rs hrs;rw[length_range] at hrs;refine AS.frz (a:=D) (c:=.list (rs.map fun r=>V.ref r.1)) (B2:=⟨ruL R a.L (szR R) (raR R),ruC R (siR R) (tpR R) (coR R),[],m++Se R rs⟩) ⟨rfl,⟨_,Cut.pre .here _,.rest⟩,FzE.refl _,FzE.refl _,rfl⟩ .at ?_;walk_at"vs";exact h rs hrs
end
end
section
noncomputable def riM(xr dr:Addr):List (Addr × Cell):=[(xr,.raw (·=instObj 38 dr)),(dr,.ns [("comp_select_list",.list (riC.map csV))])]
noncomputable abbrev dcV(w:Str)(i:Nat):V:=.sdict [w] [.int ((1 + i:Nat):Int)]
noncomputable abbrev clR(R:RunI):Option V:=some (.list ((List.range R.n).map fun i=>dcV (R.ar.getD i "") i))
noncomputable abbrev rfR(l:List Addr):Option V:=some (.list (l.map V.ref))
section
variable{X:Cx}{B:St}{k:Nat}{L:Addr}{Q:Fl->St->Prop}{R:RunI}{a:LxA}{m:List (Addr × Cell)}{rs:List (Addr × Addr)}
theorem Hd(G:G3 X)(hA:Rm X.A (k + 7))(hR0:RunOk R)(h:∀ xr dr Dm Dt Dp,Q .next ⟨ruL R a.L (szR R) (raR R) (cpR rs) (some (.ref xr)) (some (.ref Dt)) (some (.ref Dp)),ruC R (siR R) (tpR R) (coR R) (some (.ref Dm)),[],
  m++(riM xr dr++[(Dm,.list ((replicate R.n ((0:Int),(R.t0:Int),(0:Int))).map tv)),(Dt,.list []),(Dp,.list (R.ar.map V.str))])⟩):RS (X.callee (Xu X.w.params).1 L 170) 3 ⟨ruL R a.L (szR R) (raR R) (cpR rs),ruC R (siR R) (tpR R) (coR R),[],m⟩ Q:=by
 refine RS.i G hA fun hR hh G'=>?_;walk_at"vag";walk_at"v";walk_at"v";refine EV.call38 (by walk_at"vg") (by walk_at"vgn") ?_;walk_at"v";refine EV.list ?_;walk_at"vss";refine Hp (k:=k + 4) (d:=.list (riC.map csV)) G' hR fun xr dr=>?_;walk_at"v";refine EV.lcfM (α:=Str) ?_ (by kernel_rfl) (by kernel_rfl) rfl (by intro _;rfl);walk_at"vs";refine⟨_,_,_,R.ar,V.str,fun _=>tv ((0:Int),(R.t0:Int),(0:Int)),fun _=>true,ITERC.list hh,by walk_at"vsc",hR0.nsl,?_,?_⟩
 ·intro C D c w hw;walk_at"vs";refine⟨rfl,?_⟩;refine(if_pos rfl).mpr ?_;walk_at"vs";refine SUB.ti 0 rfl rfl (by decide:2 ≤ sizeLine) ?_;walk_at"vss";exact⟨rfl,by walk_at"vback"⟩
 rw[filter_eq_self.mpr fun _ _=>rfl];intro Dm;walk_at"v";refine EV.listM ?_;walk_at"vss";intro Dt;walk_at"v";refine EV.callT (by walk_at"vg") "list" (by walk_at"vbn") ?_;walk_at"vs";refine CALL.listL (by rw[length_map];exact hR0.nsl) fun Dp=>?_;walk_at"vss"
 haveI e1:R.ar.map (fun _=>tv ((0:Int),(R.t0:Int),(0:Int)))=(replicate R.n ((0:Int),(R.t0:Int),(0:Int))).map tv:=by
  rw[List.map_const',map_replicate];rfl
 haveI e2:=h xr dr Dm Dt Dp
 rw[<- e1] at e2;rw[append_assoc,append_assoc,append_assoc];exact e2
theorem Hc(G:G3 X)(hA:Rm X.A (k + 7))(hR0:RunOk R){v1 v2 v3 w1:Option V}(h:∀ bs ks:List Addr,bs.length=R.n->ks.length=R.n->Q .next ⟨ruL R a.L (szR R) (raR R) (cpR rs) v1 v2 v3 (clR R),ruC R (siR R) (tpR R) (coR R) w1 (rfR bs) (rfR ks),[],
  m++(bs.zip ((replicate R.n [bkV bk0]).map Cell.list)++ks.zip ((replicate R.n []).map Cell.list))⟩):RS (X.callee (Xu X.w.params).1 L 170) 4 ⟨ruL R a.L (szR R) (raR R) (cpR rs) v1 v2 v3,ruC R (siR R) (tpR R) (coR R) w1,[],m⟩ Q:=by
 refine RS.i G hA fun hR hh G'=>?_;walk_at"vag";walk_at"v";walk_at"v";refine EV.lcn [bkV bk0] ?_ (by kernel_rfl) (by kernel_rfl) rfl (by intro _;rfl);walk_at"vs";refine .mk _ _ _ _ (ITERC.list hh) (by walk_at"vsc") (by rw[length_map];exact hR0.nsl) ?_ fun Db bs hbs=>?_
 ·intro C di m hdi;walk_at"vs";refine EV.listM ?_;walk_at"vss";refine EV.dictES ?_;walk_at"vss";exact fun r=>⟨r,rfl,by walk_at"vback"⟩
 rw[length_map] at hbs;rw[length_map];walk_at"v";refine EV.lcn [] ?_ (by kernel_rfl) (by kernel_rfl) rfl (by intro _;rfl);walk_at"vs";refine .mk _ _ _ _ (ITERC.list hh) (by walk_at"vsc") (by rw[length_map];exact hR0.nsl) ?_ fun Dk ks hks=>?_
 ·intro C di m hdi;walk_at"vs";refine EV.listM ?_;walk_at"vss";exact fun r=>⟨r,rfl,by walk_at"vback"⟩
 rw[length_map] at hks;rw[length_map];walk_at"v";refine EV.lcm (α:=Nat) ?_ (by kernel_rfl) (by kernel_rfl) rfl (by intro _;rfl);refine EV.rangeC (by walk_at"vg") ?_;walk_at"vs";refine CALL.range ?_;refine⟨_,_,_,List.range R.n,nat,fun i=>dcV (R.ar.getD i "") i,ITERC.rngN hh (le_trans hR0.n40 (by decide)),by walk_at"vsc",by rw[length_range];exact hR0.nsl,?_,?_⟩
 ·intro C D c i hi
  haveI hil:=mem_range.mp hi
  walk_at"v";refine EV.dict1 fun b=>?_;walk_at"vs";refine SUB.li i "" rfl hil hR0.nsl ?_;walk_at"vs";refine⟨rfl,_,rfl,?_⟩;walk_at"vs";exact⟨rfl,rfl,by walk_at"vback"⟩
 walk_at"v";refine⟨(by decide:3 ≤ sizeLine),?_⟩;refine AS.frz (a:=Db) (c:=.list (bs.map V.ref)) (B2:=⟨ruL R a.L (szR R) (raR R) (cpR rs) v1 v2 v3,ruC R (siR R) (tpR R) (coR R) w1,[],m++bs.zip ((replicate R.n [bkV bk0]).map Cell.list)++(Dk,.list (ks.map V.ref))::ks.zip ((replicate R.n []).map Cell.list)⟩) ⟨rfl,⟨_,?_,.rest⟩,FzE.refl _,FzE.refl _,rfl⟩ (.tup (.cons .at (FzL.refl _))) ?_
 ·show Cut _ _ (m++((Db,Cell.list (bs.map V.ref))::_)++_) (m++_++_);rw[append_assoc,append_assoc];exact Cut.pre .here m
 refine AS.frz (a:=Dk) (c:=.list (ks.map V.ref)) (B2:=⟨ruL R a.L (szR R) (raR R) (cpR rs) v1 v2 v3,ruC R (siR R) (tpR R) (coR R) w1,[],m++bs.zip ((replicate R.n [bkV bk0]).map Cell.list)++ks.zip ((replicate R.n []).map Cell.list)⟩) ⟨rfl,⟨_,Cut.pre .here _,.rest⟩,FzE.refl _,FzE.refl _,rfl⟩ (.tup (.cons .same (.cons .at (FzL.refl _)))) ?_;walk_at"vss"
 haveI e:=h bs ks hbs hks
 rw[<- append_assoc] at e;exact e
end
end
section
structure Uw where
 (rs:List (Addr × Addr)) (xr dr Dm Dt Dp:Addr) (bs ks:List Addr)
structure Ld(R:RunI)(D:Uw):Prop where
 rs:D.rs.length=R.n
 bs:D.bs.length=R.n
 ks:D.ks.length=R.n
noncomputable def Yo(R:RunI)(D:Uw)(ω:List (Int × Int × Int))(μ push:List Nat)(bk:List (List Bk))(tk:List (List Nat)):List (Addr × Cell):=
 Se R D.rs++(riM D.xr D.dr++[(D.Dm,.list (ω.map tv)),(D.Dt,.list (μ.map (wV R.ar))),(D.Dp,.list (push.map (wV R.ar)))])++(D.bs.zip ((bk.map fun l=>l.map bkV).map Cell.list)++D.ks.zip ((tk.map fun l=>l.map nat).map Cell.list))
section
variable{R:RunI}{D:Uw}{ω:List (Int × Int × Int)}{μ push:List Nat}{bk:List (List Bk)}{tk:List (List Nat)}
theorem Tw{a:Addr}{c:Cell}{l l':List (Addr × Cell)}{m1 m2 m3:List (Addr × Cell)}(h:UpM a c l l'):UpM a c (m1++(m2++l)++m3) (m1++(m2++l')++m3):=UpM.left (UpM.right (UpM.right h))
theorem P9:(D.Dm,Cell.list (ω.map tv)) ∈ Yo R D ω μ push bk tk:=mem_left (mem_right (mem_right mem_hd))
theorem Lp{marks'}:UpM D.Dm (Cell.list (marks'.map tv)) (Yo R D ω μ push bk tk) (Yo R D marks' μ push bk tk):=Tw UpM.head
theorem M3:(D.Dt,Cell.list (μ.map (wV R.ar))) ∈ Yo R D ω μ push bk tk:=mem_left (mem_right (mem_right (mem_tl mem_hd)))
theorem Ln{told'}:UpM D.Dt (Cell.list (told'.map (wV R.ar))) (Yo R D ω μ push bk tk) (Yo R D ω told' push bk tk):=Tw (UpM.tail UpM.head)
theorem M5:(D.Dp,Cell.list (push.map (wV R.ar))) ∈ Yo R D ω μ push bk tk:=mem_left (mem_right (mem_right (mem_tl (mem_tl mem_hd))))
theorem Lo{push'}:UpM D.Dp (Cell.list (push'.map (wV R.ar))) (Yo R D ω μ push bk tk) (Yo R D ω μ push' bk tk):=Tw (UpM.tail (UpM.tail UpM.head))
theorem Jq{u:Nat}{r:Addr}{l:List Bk}(hr:D.bs[u]?=some r)(hl:bk[u]?=some l):(r,Cell.list (l.map bkV)) ∈ Yo R D ω μ push bk tk:=mem_right (mem_left (Q9 hr (by rw[getElem?_map,getElem?_map,hl];rfl)))
theorem Lr{u:Nat}{r:Addr}{l:List Bk}(hr:D.bs[u]?=some r)(hu:u < bk.length):UpM r (Cell.list (l.map bkV)) (Yo R D ω μ push bk tk) (Yo R D ω μ push (bk.set u l) tk):=by
 unfold Yo;rw[List.map_set,List.map_set];exact UpM.right (UpM.left (Oc hr (by rw[length_map,length_map];exact hu)))
theorem M6{u:Nat}{r:Addr}{l:List Nat}(hr:D.ks[u]?=some r)(hl:tk[u]?=some l):(r,Cell.list (l.map nat)) ∈ Yo R D ω μ push bk tk:=mem_right (mem_right (Q9 hr (by rw[getElem?_map,getElem?_map,hl];rfl)))
theorem Lq{u:Nat}{r:Addr}{l:List Nat}(hr:D.ks[u]?=some r)(hu:u < tk.length):UpM r (Cell.list (l.map nat)) (Yo R D ω μ push bk tk) (Yo R D ω μ push bk (tk.set u l)):=by
 unfold Yo;rw[List.map_set,List.map_set];exact UpM.right (UpM.right (Oc hr (by rw[length_map,length_map];exact hu)))
theorem Jp{u:Nat}{r:Addr × Addr}(hr:D.rs[u]?=some r)(hu:u < R.n):(r.1,Cell.raw (·=instObj 38 r.2)) ∈ Yo R D ω μ push bk tk /\ (r.2,Cell.ns [("comp_select_list",.list ((R.cs u).map csV))]) ∈ Yo R D ω μ push bk tk:=by
 have h:(r,u) ∈ D.rs.zip (List.range R.n):=by
  refine mem_of_getElem? (i:=u) ?_;rw[getElem?_zip_eq_some];exact⟨hr,getElem?_range hu⟩
 exact⟨mem_left (mem_left (mem_flatMap.mpr ⟨_,h,mem_hd⟩)),mem_left (mem_left (mem_flatMap.mpr ⟨_,h,mem_tl mem_hd⟩))⟩
theorem M4:(D.xr,Cell.raw (·=instObj 38 D.dr)) ∈ Yo R D ω μ push bk tk /\ (D.dr,Cell.ns [("comp_select_list",.list (riC.map csV))]) ∈ Yo R D ω μ push bk tk:=⟨mem_left (mem_right (mem_left mem_hd)),mem_left (mem_right (mem_left (mem_tl mem_hd)))⟩
end
structure Xx where
 (ω:List (Int × Int × Int)) (push:List Nat) (φ:List (List (Nat × Int × Int)))
noncomputable def mkA(m:List (Int × Int × Int))(u:Nat):Int × Int × Int:=m.getD u (0,0,0)
namespace RunI
variable(R:RunI)
noncomputable def lead(u:Nat):Nat × Nat:=R.ax.getD u (0,0)
noncomputable def preds(w:Nat):List Nat:=(List.range R.n).filter fun u=>decide ((R.lead u).1=w \/ (R.lead u).2=w)
noncomputable def sign(m:List (Int × Int × Int))(u:Nat):Int:=Yb (R.cs u) (mkA m (R.lead u).1) (mkA m (R.lead u).2)
noncomputable def best(m:List (Int × Int × Int))(u:Nat):Nat:=Zn (R.lead u) (if R.sign m u=1 then 1 else 0)
noncomputable def new(m:List (Int × Int × Int))(u:Nat):Int × Int × Int:=R6 (mkA m (R.best m u)) (R.τ.getD u 0:Nat) (R.t0:Nat) (R.t1:Nat)
noncomputable def rise(m:List (Int × Int × Int))(u:Nat):Int:=Yb riC (R.new m u) (mkA m u)
noncomputable def ent(m:List (Int × Int × Int))(u:Nat):Nat × Int × Int:=(R.best m u,R.rise m u,(R.new m u).2.2 - (mkA m u).2.2)
noncomputable def turn(s:Xx)(u:Nat):Xx:=⟨if R.rise s.ω u=1 then s.ω.set u (R.new s.ω u) else s.ω,if R.rise s.ω u=1 then s.push++R.preds u else s.push,s.φ.set u (s.φ.getD u []++[R.ent s.ω u])⟩
noncomputable def run:Nat->Xx
 | 0=>⟨replicate R.n (0,(R.t0:Int),0),List.range R.n,replicate R.n []⟩
 | j + 1=>match (run j).push[j]? with | none=>run j | some u=>R.turn (run j) u
noncomputable def wy:Wy (Nat × Int × Int):=⟨fun e=>R.ar.getD e.1 "",fun e=>1 + (e.1:Nat),fun e=>e.2.1,fun e=>e.2.2,fun e=>(R.ψ.getD e.1 0:Nat)⟩
theorem run_succ(j:Nat):R.run (j + 1)=match (R.run j).push[j]? with | none=>R.run j | some u=>R.turn (R.run j) u:=rfl
theorem run_stop{j:Nat}(h:(R.run j).push.length ≤ j):∀ m,R.run (j + m)=R.run j
 | 0=>rfl
 | m + 1=>by rw[<- add_assoc,run_succ,run_stop h m,getElem?_eq_none (le_trans h (le_add_right _ _))]
theorem preds_lt{w x:Nat}(h:x ∈ R.preds w):x < R.n:=mem_range.mp (mem_filter.mp h).1
theorem preds_len(w:Nat):(R.preds w).length ≤ R.n:=by
 have:=length_filter_le (fun u=>decide ((R.lead u).1=w \/ (R.lead u).2=w)) (List.range R.n);rwa [length_range] at this
end RunI
structure SOkR(R:RunI)(j:Nat)(s:Xx):Prop where
 lm:s.ω.length=R.n
 lh:s.φ.length=R.n
 lt:∀ x ∈ s.push,x < R.n
 lp:s.push.length ≤ 5 * (j + 1)
 hl:∀ l ∈ s.φ,l.length ≤ j
theorem SOkR.turn{R:RunI}{j:Nat}{s:Xx}(h0:RunOk R)(h:SOkR R j s)(u:Nat):SOkR R (j + 1) (R.turn s u):=by
 unfold RunI.turn;have hp:=le_trans (R.preds_len u) h0.n5.2;refine⟨?_,by rw[length_set];exact h.lh,?_,?_,fun l hl=>?_⟩
 ·dsimp only;split
  ·rw[length_set];exact h.lm
  ·exact h.lm
 ·intro x hx;dsimp only at hx;split at hx
  ·rcases mem_append.mp hx with hx | hx
   ·exact h.lt x hx
   ·exact R.preds_lt hx
  ·exact h.lt x hx
 ·dsimp only;split
  ·rw[length_append];exact add_le_add h.lp hp
  ·exact le_trans h.lp (le_add_right _ _)
 ·rcases List.mem_or_eq_of_mem_set hl with hl | rfl
  ·exact le_succ_of_le (h.hl l hl)
  ·rw[length_append];refine add_le_add ?_ (le_refl 1);rw[getD_eq_getElem?_getD];cases e:s.φ[u]? with
   | none=>exact zero_le _
   | some l=>exact h.hl l (mem_of_getElem? e)
theorem SOkR.run{R:RunI}(h0:RunOk R):∀ j,SOkR R j (R.run j)
 | 0=>⟨length_replicate ..,length_replicate ..,fun x hx=>mem_range.mp hx,by show(List.range R.n).length ≤ _;rw[length_range];exact h0.n5.2,fun l hl=>by rw[List.eq_of_mem_replicate hl];exact zero_le _⟩
 | j + 1=>by
  have ih:=SOkR.run h0 j;rw[R.run_succ];split
  ·exact⟨ih.lm,ih.lh,ih.lt,le_trans ih.lp (le_add_right _ _),fun l hl=>le_succ_of_le (ih.hl l hl)⟩
  ·exact ih.turn h0 _
section
variable{X:Cx}{B:St}{k:Nat}{L:Addr}{Q:Fl->St->Prop}{R:RunI}{a:LxA}{pre post:List (Addr × Cell)}
theorem Hb(G:G3 X)(hA:Rm X.A (k + 7))(hR0:RunOk R){i:Int}{t:List Nat}{v1 v2 v3 v4 v5 w1 w2 w3:Option V}(h:∀ wo,Q .next ⟨ruL R a.L (szR R) (raR R) v4 v1 v2 v3 v5 wo,ruC R (siR R) (tpR R) (coR R) w1 w2 w3,[],
  pre++Zp (qL X.w.params) a i t (R.ar.map V.str)++post⟩):RS (X.callee (Xu X.w.params).1 L 170) 5 ⟨ruL R a.L (szR R) (raR R) v4 v1 v2 v3 v5,ruC R (siR R) (tpR R) (coR R) w1 w2 w3,[],pre++Zp (qL X.w.params) a i t []++post⟩ Q:=by
 refine RS.i G hA fun hR hh G'=>?_;refine ES.for hh ?_;walk_at"vs";refine⟨_,ITER.list hh,fun j B2=>∃ wo,B2=⟨ruL R a.L (szR R) (raR R) v4 v1 v2 v3 v5 wo,ruC R (siR R) (tpR R) (coR R) w1 w2 w3,[],pre++Zp (qL X.w.params) a i t ((R.ar.map V.str).take j)++post⟩,⟨none,rfl⟩,?_,?_⟩
 ·rintro j dj B2 hj ⟨wo,rfl⟩;walk_at"vs";refine EV.pushTok (a:=a) (k:=k) G' (hR.le (by simp)) ?_;walk_at"vs";refine .mk i t ((R.ar.map V.str).take j) pre post rfl rfl (by rw[length_take,length_map];exact le_trans (min_le_right ..) hR0.nsl) ?_;walk_at"vs";refine⟨rfl,?_⟩;walk_at"vs";rw[Za hj];exact⟨_,rfl⟩
 rintro B2 ⟨wo,rfl⟩;rw[take_length];exact h wo
end
end
section
inductive CPK(X:Cx)(args:List PySem.Expr)(pos:Pos)(P:V->St->Prop)(d:V)(B1:St):Prop
 | mk (x dx:Addr) (cs:List (Nat × Int)) (hd:d=.ref x) (hcs:∀ p ∈ cs,p.1 < 3) (hm:(x,Cell.raw (·=instObj 38 dx)) ∈ B1.mem /\ (dx,Cell.ns [("comp_select_list",V.list (cs.map csV))]) ∈ B1.mem)
  (h:EVs X pos args B1 fun ds B2=>∃ l r,ds=[Rf l,Rf r] /\ B2.mem=B1.mem /\ P (.int (Yb cs l r)) B2)
section
variable{X:Cx}{B:St}{k:Nat}{P:V->St->Prop}
theorem EV.cmp38(G:G3 X)(hA:Rm X.A (k + 1)){o:PySem.Expr}{args:List PySem.Expr}{apos pos:Pos}(h:EV X o B (CPK X args pos P))
  (hbase:∀ env,attributeBase o "compare" env (eval o env)=eval o env:=by intro _;rfl)
  (hfew:∀ env,((backTo pos (starEach args env)).all (fun x=>!x.1) && (backToKw pos (keywordEach [] env)).all (fun x=>x.1.isSome)
   && decide (args.length + ([]:List Keyword).length + (if ([]:List Keyword).isEmpty then 0 else 1) < 30))=true:=by intro _;rfl)
  (hline:(apos.endLine == pos.line)=true:=by rfl) (hp:∀ env,(starEach args env).any (·.1)=false:=by intro _;rfl):EV X (.Call (.Attribute o "compare" apos) args [] pos) B P:=by
 refine EV.methU (y:=Option.none) 38 37 _ 35 (L8 G) (by kernel_rfl) (by kernel_rfl) (by kernel_rfl) (G.K _ _ (o35 _).2) (by kernel_rfl) (by rw[typeLookup_type,builtinLookup_eq_fast];kernel_rfl) (J.mono h fun d B1 h1=>?_) hbase hfew hline hp;obtain⟨x,dx,cs,rfl,hcs,hm,h1⟩:=h1;refine⟨x,dx,_,rfl,hm.1,hm.2,(by simp only[List.map];decide +kernel),J.mono h1 fun ds B2 h2=>?_⟩;obtain⟨l,r,rfl,e,h2⟩:=h2;refine⟨Keep.func (G.K _ _ (o35 _).2) (f35 X.w.params).2 (Y6 (n:= "function") (by kernel_rfl)),?_⟩;exact sp_35 G hA hcs (e ▸ hm.1) (e ▸ hm.2) h2
end
theorem Gy(R:RunI)(u:Nat):∀ p ∈ R.cs u,p.1 < 3:=fun p hp=>by
 haveI:=List.mem_of_mem_take hp
 rcases mem_cons.mp this with rfl | this
 ·show 2 < 3;decide
 rcases mem_cons.mp this with rfl | this
 ·show 1 < 3;decide
 rw[mem_singleton] at this;subst this;show 0 < 3;decide
theorem Hh:∀ p ∈ riC,p.1 < 3:=by unfold riC;decide
theorem Qs{cs:List (Nat × Int)}(h:∀ p ∈ cs,p.2=1 \/ p.2= -1)(l r:Int × Int × Int):Yb cs l r= -1 \/ Yb cs l r=0 \/ Yb cs l r=1:=by
 induction cs with
 | nil=>exact .inr (.inl rfl)
 | cons p cs ih=>
  haveI hp:=h p mem_cons_self
  unfold Yb;split
  ·rcases hp with e | e <;> rw[e];exact .inl rfl;exact .inr (.inr rfl)
  split
  ·rcases hp with e | e <;> rw[e];exact .inr (.inr rfl);exact .inl rfl
  exact ih fun q hq=>h q (mem_cons_of_mem _ hq)
theorem RunOk.side{R:RunI}(h:RunOk R){u:Nat}(hu:u < R.n):R.ρ.getD u 0=1 \/ R.ρ.getD u 0= -1:=by
 haveI hu':u < R.ρ.length:=h.sl.symm ▸ hu
 rw[getD_eq_getElem?_getD,getElem?_eq_getElem hu'];obtain⟨k,hk,e⟩:=mem_map.mp (getElem_mem hu');show R.ρ[u]=1 \/ R.ρ[u]= -1;rw[<- e]
 haveI hw:=h.hw
 haveI:=h.k2 k hk
 generalize R.who=w at *;rcases this with rfl | rfl <;> (rcases w with _ | _ | w;decide;decide;exact absurd hw (by simp))
theorem RunOk.cs1{R:RunI}(h:RunOk R){u:Nat}(hu:u < R.n):∀ p ∈ R.cs u,p.2=1 \/ p.2= -1:=fun p hp=>by
 haveI hs:=h.side hu
 haveI:=List.mem_of_mem_take hp
 generalize R.ρ.getD u 0=s at *;rcases mem_cons.mp this with rfl | this
 ·exact hs
 rcases mem_cons.mp this with rfl | this
 ·rcases hs with rfl | rfl;exact .inr rfl;exact .inl rfl
 rw[mem_singleton] at this;subst this;exact hs
theorem Nu{c:Int}(h:c= -1 \/ c=0 \/ c=1):vat [-1,0,1] [V.int 0,V.int 0,V.int 1] c=some (nat (if c=1 then 1 else 0)):=by
 rcases h with rfl | rfl | rfl <;> rfl
theorem RunI.lead_lt{R:RunI}(h:RunOk R){u:Nat}(hu:u < R.n):(R.lead u).1 < R.n /\ (R.lead u).2 < R.n:=by
 refine h.lt _ ?_;unfold RunI.lead;rw[getD_eq_getElem?_getD,getElem?_eq_getElem (h.dl.symm ▸ hu)];exact getElem_mem _
theorem RunI.best_lt{R:RunI}(h:RunOk R){u:Nat}(hu:u < R.n)(m):R.best m u < R.n:=Vk (R.lead_lt h hu)
theorem Zi{α:Type}{l:List α}{i:Nat}(d:α)(h:i < l.length):l[i]?=some (l.getD i d):=by
 rw[getD_eq_getElem?_getD,getElem?_eq_getElem h];rfl
theorem rgD{n v:Nat}(h:v < n):(List.range n).getD v 0=v:=by rw[getD_eq_getElem?_getD,getElem?_range h];rfl
noncomputable def N0(q:Str)(a:LxA)(pre post:List (Addr × Cell))(i:Int)(t:List Nat)(R:RunI)(D:Uw)(p:List Nat)(ω:List (Int × Int × Int))(μ push:List Nat)(bk:List (List Bk))(tk:List (List Nat)):List (Addr × Cell):=
 pre++Zp q a i t (p.map (wV R.ar))++(post++Yo R D ω μ push bk tk)
noncomputable def bkS(R:RunI)(s:List (List (Nat × Int × Int))):List (List Bk):=s.map (Yl R.wy)
noncomputable def tkS(s:List (List (Nat × Int × Int))):List (List Nat):=s.map fun l=>l.map (·.1)
section
variable{X:Cx}{B:St}{k:Nat}{L:Addr}{Q:Fl->St->Prop}{R:RunI}{a:LxA}{pre post:List (Addr × Cell)}
noncomputable abbrev loL(R:RunI)(a:LxA)(D:Uw)(wo st be ma rs cl:Option V):List (Str × Option V):=ruL R a.L (szR R) (raR R) (cpR D.rs) (some (.ref D.xr)) (some (.ref D.Dt)) (some (.ref D.Dp)) (clR R) wo st be ma rs cl
noncomputable abbrev loC(R:RunI)(D:Uw)(u:Option V):List (Str × Option V):=ruC R (siR R) (tpR R) (coR R) (some (.ref D.Dm)) (rfR D.bs) (rfR D.ks) u
theorem Ha(G:G3 X)(hA:Rm X.A (k + 7))(hok:Ux X.w.params a)(hR0:RunOk R){D:Uw}(hD:Ld R D){i:Int}{t:List Nat}(hs:t.length ≤ sizeLine)
  (hsy:∀ w ∈ R.ar,∃ s,vat R.ay (R.ss.map V.int) w=some (.int s) /\ s ≠ 0) (hend:vat R.ay (R.ss.map V.int) (tx (Zf t).1)=none)
  (hgk:∀ u,u < R.n->(R.gr.getD u ([],[])).1=(R.preds u).map fun v=>R.ar.getD v "") (hfin:(R.run 130).push.length < 130) {wo:Option V}
  (h:∀ st be ma rs cl u,Q .next ⟨loL R a D (some (.str (tx (Zf t).1))) st be ma rs cl,loC R D u,[],N0 (qL X.w.params) a pre post (i + nl t - nl (Zf t).2) (Zf t).2 R D [] (R.run 130).ω (R.run 130).push (R.run 130).push (bkS R (R.run 130).φ) (tkS (R.run 130).φ)⟩):
  RS (X.callee (Xu X.w.params).1 L 170) 6 ⟨loL R a D wo none none none none none,loC R D none,[],N0 (qL X.w.params) a pre post i t R D (R.run 0).push (R.run 0).ω [] (R.run 0).push (bkS R (R.run 0).φ) (tkS (R.run 0).φ)⟩ Q:=by
 refine RS.i G hA fun hR hh G'=>?_
 haveI hn6:=hR0.n5.2
 refine ES.for hh ?_;refine EV.rangeC (by walk_at"vg") ?_;walk_at"vs";refine CALL.range ?_;refine .jr (n:=130) hh (by decide) (fun j=>j ≤ (R.run j).push.length) (fun j o=>⟨loL R a D (o 0) (o 1) (o 2) (o 3) (o 4) (o 5),loC R D (o 6),[],N0 (qL X.w.params) a pre post i t R D ((R.run j).push.drop j) (R.run j).ω ((R.run j).push.take j) (R.run j).push (bkS R (R.run j).φ) (tkS (R.run j).φ)⟩) [_,none,none,none,none,none,none] (zero_le _) rfl ?_ ?_
 ·intro j' o hjl hle
  haveI hst:=R.run_succ j'
  haveI hS:=SOkR.run hR0 j'
  haveI hend2:(R.run j').push.length ≤ j'->R.run 130=R.run j':=fun h=>by
   haveI:=R.run_stop h (130 - j')
   rwa [show j' + (130 - j')=130 by exact Nat.add_sub_cancel' (le_of_lt hjl)] at this
  generalize R.run (j' + 1)=s2 at *;generalize R.run j'=s at *
  haveI hps:s.push.length ≤ 1000:=le_trans hS.lp (le_trans (mul_le_mul_left 5 hjl) (by decide))
  walk_at"vs";refine EV.getTok (a:=a) (k:=k) G' (hR.le (by simp)) hok ?_;walk_at"vs";refine .mk i t ((s.push.drop j').map (wV R.ar)) pre _ rfl rfl hs (by rw[length_map,length_drop];exact(le_trans (le_trans (sub_le ..) hps) (by decide))) (fun hp=>?_) (fun d p' hp=>?_)
  ·haveI hd:s.push.drop j'=[]:=by simpa using hp
   haveI hjl2:s.push.length ≤ j':=List.drop_eq_nil_iff.mp hd
   rw[take_of_length_le hjl2];rw[hend2 hjl2] at h;walk_at"vs";refine EV.callG (by walk_at"vg") 129 (by walk_at"vgn") (Md _) (Mz _) ?_;walk_at"v";refine EV.meth "dict" "dict.get" F.plainAttrs_dict F.slot_dict_get F.type_dict_get ?_;walk_at"vs";refine⟨TypeV.sdict,?_⟩;walk_at"vs";refine CALL.dget ?_;refine pq (by rw[hend]) ?_;walk_at"vs";refine sp_129 (k:=k) (by walk_at"vg") (hR.le (by simp)) ?_;walk_at"vs";refine(if_pos (by rfl)).mpr ?_;walk_at"v";walk_at"v"
   repeat (with_reducible refine KT.brk ?_)
   with_reducible refine KontL.brk (by assumption) ?_
   exact h _ _ _ _ _ _
  ·haveI hjl2:j' < s.push.length:=lt_of_not_le fun h=>by rw[drop_eq_nil_of_le h] at hp;exact(nomatch hp)
   haveI hjt:s.push[j']?=some s.push[j']:=getElem?_eq_getElem hjl2
   rw[drop_eq_getElem_cons hjl2,map_cons] at hp;rw[hjt] at hst;dsimp only at hst
   haveI hul:=hS.lt _ (getElem_mem hjl2)
   generalize s.push[j']=uu at *;obtain⟨hp1,hp2⟩:=List.cons.inj hp;subst hp1 hp2;obtain⟨hw1,hw2⟩:=Mt hR0.nd hul;obtain⟨sy,hs1,hs2⟩:=hsy _ hw1;walk_at"vs";refine EV.callG (by walk_at"vg") 129 (by walk_at"vgn") (Md _) (Mz _) ?_;walk_at"v";refine EV.meth "dict" "dict.get" F.plainAttrs_dict F.slot_dict_get F.type_dict_get ?_;walk_at"vs";refine⟨TypeV.sdict,?_⟩;walk_at"vs";refine CALL.dget ?_;refine pq (by rw[hs1]) ?_;walk_at"vs";refine sp_129 (k:=k) (by walk_at"vg") (hR.le (by simp)) ?_;walk_at"vs";refine(if_neg (by simpa using hs2)).mpr ?_;walk_at"vs"
   haveI hlast:=hS.lm
   haveI hlh:=hS.lh
   obtain⟨hl0,hl1⟩:=R.lead_lt hR0 hul
   haveI hbl:=R.best_lt hR0 hul s.ω
   haveI hMm:∀ {m1:List (Addr × Cell)} {tl},(D.Dm,Cell.list (s.ω.map tv)) ∈ m1++(post++Yo R D s.ω tl s.push (bkS R s.φ) (tkS s.φ)):=mem_right (mem_right P9)
   haveI hMk:∀ {v:Nat},v < R.n->(s.ω.map tv)[v]?=some (tv (mkA s.ω v)):=fun hv=>by rw[getElem?_map,Zi (0,0,0) (hlast.symm ▸ hv)];rfl
   haveI hMi:∀ {v:Nat},v < R.n->seqIndex? ((v:Nat):Int) (s.ω.map tv).length=some v:=fun hv=>Yz (by rw[length_map,hlast];exact hv)
   haveI hM6:∀ {v:Nat},v < R.n-> -2 ^ 63 ≤ ((v:Nat):Int) /\ ((v:Nat):Int) < 2 ^ 63:=fun hv=>Ii (c:=5) (le_of_lt (lt_of_lt_of_le hv hn6))
   haveI hldu:R.ax.getD uu (0,0)=R.lead uu:=rfl
   refine EV.meth "list" "list.append" F.plainAttrs_list F.slot_list_append F.type_list_append ?_;walk_at"vs";refine⟨TypeV.cell (mem_right (mem_right M3)),?_⟩;walk_at"vs";refine CALL.append (mem_right (mem_right M3)) (by rw[show(s.push.take j').map (wV R.ar)++[wV R.ar uu]=(s.push.take j'++[uu]).map (wV R.ar) by rw[map_append];rfl];exact UpM.right (UpM.right Ln)) ?_ (by rw[length_map,length_take];exact(le_trans (le_trans (min_le_right ..) hps) (by decide)));walk_at"vs";refine EV.meth "list" "list.index" F.plainAttrs_list F.slot_list_index F.type_list_index ?_;walk_at"v";refine⟨TypeV.list,?_⟩;walk_at"vs";refine CALL.index 1 hR (Ih _ R.ar) (Kh hw1) (by rw[length_map];exact hR0.nsl) ?_;refine pq (by rw[hw2]) ?_;walk_at"vs"
   haveI hdl:=hR0.dl
   haveI hlu:uu < R.ax.length:=hdl.symm ▸ hul
   haveI h5s:∀ {m:Nat},m=R.n->m ≤ sizeLine:=fun e=>e ▸ hR0.nsl
   haveI hrs:uu < D.rs.length:=hD.rs.symm ▸ hul
   refine SUB.li uu (0,0) rfl hlu (h5s hdl) ?_;refine pq (by rw[hldu]) ?_;walk_at"v";refine EV.dictCmp (i:=0) (j:=0) (l:=1) (fun _=>by walk_at"vs";exact⟨rfl,rfl⟩) (fun _=>by walk_at"vs";exact⟨rfl,rfl⟩) (fun _=>by walk_at"vs";exact⟨rfl,rfl⟩) (fun _=>by walk_at"vs";exact⟨rfl,rfl⟩) (fun _=>by walk_at"vs";exact⟨rfl,rfl⟩) (fun _=>by walk_at"vs";exact⟨rfl,rfl⟩) ?_;refine EV.cmp38 (k:=k + 5) G' hR ?_;walk_at"vs";refine SUB.li (xs:=D.rs) (enc:=fun r=>V.ref r.1) uu (0,0) rfl hrs (h5s hD.rs) ?_;obtain⟨hc1,hc2⟩:=Jp (R:=R) (D:=D) (ω:=s.ω) (μ:=s.push.take j'++[uu]) (push:=s.push) (bk:=bkS R s.φ) (tk:=tkS s.φ) (Zi (0,0) hrs) hul;refine .mk _ _ (R.cs uu) rfl (Gy R uu) ⟨mem_right (mem_right hc1),mem_right (mem_right hc2)⟩ ?_;walk_at"vs";refine SUB.li uu (0,0) rfl hlu (h5s hdl) ?_;refine pq (by rw[hldu]) ?_;walk_at"vs";refine SUB.ti 0 (d:=nat (R.lead uu).1) rfl rfl (le_of_ble_eq_true rfl) ?_;refine SUB.lcell hMm (hMi hl0) (hMk hl0) (hM6 hl0) ?_;walk_at"vs";refine SUB.li uu (0,0) rfl hlu (h5s hdl) ?_;refine pq (by rw[hldu]) ?_;walk_at"vs";refine SUB.ti 1 (d:=nat (R.lead uu).2) rfl rfl (le_of_ble_eq_true rfl) ?_;refine SUB.lcell hMm (hMi hl1) (hMk hl1) (hM6 hl1) ?_;walk_at"vss";refine⟨mkA s.ω (R.lead uu).1,mkA s.ω (R.lead uu).2,rfl,rfl,?_⟩
   haveI hsg:Yb (R.cs uu) (mkA s.ω (R.lead uu).1) (mkA s.ω (R.lead uu).2)=R.sign s.ω uu:=rfl
   refine pq (by rw[hsg]) ?_
   haveI hvs:=Nu (c:=R.sign s.ω uu) (Qs (hR0.cs1 hul) _ _)
   refine SUB.idict hvs ?_
   haveI hbe:R.best s.ω uu=Zn (R.lead uu) (if R.sign s.ω uu=1 then 1 else 0):=rfl
   refine SUB.ti (if R.sign s.ω uu=1 then 1 else 0) (d:=nat (R.best s.ω uu)) rfl (P8 (by split <;> decide)) (le_of_ble_eq_true rfl) ?_;walk_at"vs";generalize hb0:R.best s.ω uu=b at *
   haveI hru:uu < R.τ.length:=hR0.rl.symm ▸ hul
   refine EV.callG (by walk_at"vg") 165 (by walk_at"vgn") (Jy _) (Io _) ?_;walk_at"vs";refine SUB.lcell hMm (hMi hbl) (hMk hbl) (hM6 hbl) ?_;walk_at"vs";refine SUB.li uu 0 rfl hru (h5s hR0.rl) ?_;walk_at"vss";refine sp_165 (k:=k + 5) G' hR ?_;refine pq (by rw[show R6 (mkA s.ω b) (R.τ.getD uu 0:Nat) (R.t0:Nat) (R.t1:Nat)=R.new s.ω uu by rw[<- hb0];rfl]) ?_;walk_at"vs";refine EV.cmp38 (k:=k + 5) G' hR ?_;walk_at"vs";refine .mk _ _ riC rfl Hh ⟨mem_right (mem_right M4.1),mem_right (mem_right M4.2)⟩ ?_;walk_at"vs";refine SUB.lcell hMm (hMi hul) (hMk hul) (hM6 hul) ?_;walk_at"vss";refine⟨R.new s.ω uu,mkA s.ω uu,rfl,rfl,?_⟩;refine pq (by rw[show Yb riC (R.new s.ω uu) (mkA s.ω uu)=R.rise s.ω uu from rfl]) ?_;walk_at"vs"
   haveI hks:uu < D.ks.length:=hD.ks.symm ▸ hul
   haveI hbs:uu < D.bs.length:=hD.bs.symm ▸ hul
   haveI hhu:=Zi (α:=List (Nat × Int × Int)) [] (hlh.symm ▸ hul)
   haveI hhl:(s.φ.getD uu []).length ≤ 130:=le_trans (hS.hl _ (mem_of_getElem? hhu)) (le_of_lt hjl)
   haveI hku:(tkS s.φ)[uu]?=some ((s.φ.getD uu []).map (·.1)):=by unfold tkS;rw[getElem?_map,hhu];rfl
   haveI hbu:(bkS R s.φ)[uu]?=some (Yl R.wy (s.φ.getD uu [])):=by unfold bkS;rw[getElem?_map,hhu];rfl
   generalize hH:s.φ.getD uu []=H at *;refine EV.meth "list" "list.append" F.plainAttrs_list F.slot_list_append F.type_list_append ?_;walk_at"vs";refine SUB.li (xs:=D.ks) (enc:=V.ref) uu 0 rfl hks (h5s hD.ks) ?_;refine⟨TypeV.cell (mem_right (mem_right (M6 (Zi 0 hks) hku))),?_⟩;walk_at"vs";refine CALL.append (mem_right (mem_right (M6 (Zi 0 hks) hku))) (by rw[show(H.map (·.1)).map nat++[nat b]=(H.map (·.1)++[b]).map nat by rw[map_append];rfl];exact UpM.right (UpM.right (Lq (Zi 0 hks) (by unfold tkS;rw[length_map,hlh];exact hul)))) ?_ (by rw[length_map,length_map];exact le_trans hhl (by decide));walk_at"vs"
   haveI hbl2:=Sh R.wy H
   haveI htk:=le_trans (Nw R.wy H) hhl
   haveI hre:s.φ.set uu (H++[R.ent s.ω uu])=(R.turn s uu).φ:=by rw[<- hH];rfl
   haveI hbb:=Jq (R:=R) (D:=D) (ω:=s.ω) (μ:=s.push.take j'++[uu]) (push:=s.push) (tk:=(tkS s.φ).set uu (H.map (·.1)++[b])) (Zi 0 hbs) hbu
   refine EV.meth "list" "list.append" F.plainAttrs_list F.slot_list_append F.type_list_append ?_;walk_at"vs";refine SUB.li (xs:=D.bs) (enc:=V.ref) uu 0 rfl hbs (h5s hD.bs) ?_;refine⟨TypeV.cell (mem_right (mem_right hbb)),?_⟩;walk_at"v";refine EV.callG (by walk_at"vg") 49 (by walk_at"vgn") (o49 _) (f49 _) ?_;walk_at"vs";refine SUB.li (xs:=D.bs) (enc:=V.ref) uu 0 rfl hbs (h5s hD.bs) ?_;walk_at"vs";rw[hbl2,map_append] at hbb;refine SUB.lcellLast (d:=bkV (Zk R.wy H)) (mem_right (mem_right hbb)) ?_;walk_at"vs";refine SUB.ti 2 (d:=.int (R.new s.ω uu).2.2) rfl rfl (le_of_ble_eq_true rfl) ?_;walk_at"vs";refine SUB.lcell (mem_right (mem_right P9)) (hMi hul) (hMk hul) (hM6 hul) ?_;walk_at"vs";refine SUB.ti 2 (d:=.int (mkA s.ω uu).2.2) rfl rfl (le_of_ble_eq_true rfl) ?_;walk_at"vs";refine SUB.li b 0 rfl (hR0.ll.symm ▸ hbl) (h5s hR0.ll) ?_;walk_at"vs";refine SUB.li (xs:=List.range R.n) (enc:=fun i=>dcV (R.ar.getD i "") i) b 0 rfl (by rw[length_range];exact hbl) (by rw[length_range];exact hR0.nsl) ?_;refine pq (by rw[rgD hbl]) ?_;walk_at"vss";refine sp_49 (k:=k + 4) (l':=[((1 + b:Nat):Int)]) G' hR (le_trans htk (by decide)) (by show 1 ≤ _;decide) ?_;walk_at"vs"
   haveI hbu2:UpM (D.bs.getD uu 0) (Cell.list (((List.range H.length).map fun k=>Zk R.wy (H.take k)).map bkV++[bkV (Zk R.wy H)]++[bkV (Lc (Zk R.wy H) (enB R.wy (R.ent s.ω uu)))])) (Yo R D s.ω (s.push.take j'++[uu]) s.push (bkS R s.φ) ((tkS s.φ).set uu (H.map (·.1)++[b]))) (Yo R D s.ω (s.push.take j'++[uu]) s.push (bkS R (R.turn s uu).φ) (tkS (R.turn s uu).φ)):=by
    haveI e1:bkS R (R.turn s uu).φ=(bkS R s.φ).set uu (Yl R.wy (H++[R.ent s.ω uu])):=by rw[<- hre];unfold bkS;rw[List.map_set]
    haveI e2:tkS (R.turn s uu).φ=(tkS s.φ).set uu (H.map (·.1)++[b]):=by rw[<- hre];unfold tkS;rw[List.map_set,map_append,<- hb0];rfl
    rw[e1,e2]
    haveI:=Lr (R:=R) (D:=D) (ω:=s.ω) (μ:=s.push.take j'++[uu]) (push:=s.push) (tk:=(tkS s.φ).set uu (H.map (·.1)++[b])) (l:=Yl R.wy (H++[R.ent s.ω uu])) (Zi 0 hbs) (bk:=bkS R s.φ) (by unfold bkS;rw[length_map,hlh];exact hul)
    rw[show(Yl R.wy (H++[R.ent s.ω uu])).map bkV=((List.range H.length).map fun k=>Zk R.wy (H.take k)).map bkV++[bkV (Zk R.wy H)]++[bkV (Lc (Zk R.wy H) (enB R.wy (R.ent s.ω uu)))] by rw[Pv,hbl2,map_append,map_append];rfl] at this;exact this
   haveI hew:enB R.wy (R.ent s.ω uu)=⟨R.rise s.ω uu,((1 + b:Nat):Int),(R.new s.ω uu).2.2 - (mkA s.ω uu).2.2,(R.ψ.getD b 0:Nat),[R.ar.getD b ""],[((1 + b:Nat):Int)]⟩:=by rw[<- hb0];rfl
   rw[hew] at hbu2;refine CALL.append (mem_right (mem_right hbb)) (UpM.right (UpM.right hbu2)) ?_ (by rw[length_append,length_map,length_map,length_range];exact le_trans (add_le_add_right hhl 1) (by decide));walk_at"vs"
   haveI hgv:vat R.ar (R.gr.map dV) (R.ar.getD uu "")=some (dV (R.gr.getD uu ([],[]))):=by
    rw[Wu,Wv hR0.nd (by rw[hR0.gl];rfl) "" (([],[]):TD) hul];rfl
   haveI hgk1:=hgk uu hul
   generalize R.gr.getD uu ([],[])=gd at *
   haveI hpl:=R.preds_len uu
   haveI hpl5:=le_trans hpl hn6
   haveI hrt:R.turn s uu=⟨if R.rise s.ω uu=1 then s.ω.set uu (R.new s.ω uu) else s.ω,if R.rise s.ω uu=1 then s.push++R.preds uu else s.push,(R.turn s uu).φ⟩:=rfl
   generalize (R.turn s uu).φ=HH at *;rw[hrt] at hst
   by_cases hr1:R.rise s.ω uu=1
   ·rw[if_pos hr1,if_pos hr1] at hst;refine(if_pos (by rw[hr1];rfl)).mpr ?_;generalize R.rise s.ω uu=ri at *;walk_at"v";refine ES.asgSub ?_ (by walk_at"vside");walk_at"vs";refine SETI.list (mem_right (mem_right P9)) ⟨natCast_nonneg _,by rw[length_map,hlast];exact ofNat_lt.mpr hul⟩ (hM6 hul).2 (by rw[toNat_natCast,show(s.ω.map tv).set uu (tv (R.new s.ω uu))=(s.ω.set uu (R.new s.ω uu)).map tv by rw[List.map_set]];exact UpM.right (UpM.right Lp)) ?_;walk_at"vs";refine EV.meth "list" "list.extend" F.plainAttrs_list F.slot_list_extend F.type_list_extend ?_;walk_at"vs";refine⟨TypeV.cell (mem_right (mem_right M5)),?_⟩;walk_at"vs";refine SUB.sdict hgv ?_;walk_at"vs"
    haveI hgm:gd.1.map V.str=(R.preds uu).map (wV R.ar):=by rw[hgk1,map_map];rfl
    haveI hgl:gd.1.length ≤ 5:=by rw[hgk1,length_map];exact hpl5
    refine CALL.extendD hh (mem_right (mem_right M5)) (by rw[hgm,show s.push.map (wV R.ar)++(R.preds uu).map (wV R.ar)=(s.push++R.preds uu).map (wV R.ar) by rw[map_append]];exact UpM.right (UpM.right Lo)) ?_ (by rw[length_map];exact le_trans (add_le_add_right (add_le_add hps hgl) 1) (by decide));walk_at"vs";refine ES.for hh ?_;walk_at"vs";refine SUB.sdict hgv ?_;refine .js _ (ITER.sdict hh) (fun _=>True) (fun m q=>⟨loL R a D (some (wV R.ar uu)) (some (nat j')) (some (nat b)) (some (tv (R.new s.ω uu))) (some (.int ri)) (q 0),loC R D (some (nat uu)),[],N0 (qL X.w.params) a pre post i t R D (s.push.drop (j' + 1)++(R.preds uu).take m) (s.ω.set uu (R.new s.ω uu)) (s.push.take j'++[uu]) (s.push++R.preds uu) (bkS R HH) (tkS HH)⟩) [o 5] trivial ?_ ?_ ?_
    ·rw[List.take_zero,append_nil];rfl
    ·intro m dm q hm1 _;rw[hgm,getElem?_map,Option.map_eq_some_iff] at hm1;obtain⟨w,hm2,rfl⟩:=hm1;walk_at"vs";refine EV.pushTok (a:=a) (k:=k) G' (hR.le (by simp)) ?_;walk_at"vs";refine .mk i t ((s.push.drop (j' + 1)++(R.preds uu).take m).map (wV R.ar)) pre _ rfl rfl (by rw[length_map,length_append,length_drop,length_take];exact le_trans (add_le_add (le_trans (sub_le ..) hps) (le_trans (min_le_right ..) hpl5)) (by decide)) ?_;walk_at"vs";refine⟨rfl,?_⟩;walk_at"vs";refine JS.at [some (wV R.ar w)] trivial ?_
     haveI e3:(s.push.drop (j' + 1)++(R.preds uu).take (m + 1)).map (wV R.ar)=(s.push.drop (j' + 1)++(R.preds uu).take m).map (wV R.ar)++[wV R.ar w]:=by rw[Za hm2,<- append_assoc,map_append];rfl
     unfold N0;rw[e3];rfl
    ·intro q _;rw[hgm,length_map,take_length];walk_at"vs";rw[hst];refine JS.at [some (wV R.ar uu),some (nat j'),some (nat b),some (tv (R.new s.ω uu)),some (.int ri),q 0,some (nat uu)] (by rw[length_append];exact le_trans hjl2 (le_add_right ..)) ?_;dsimp only;rw[List.take_append_of_le_length hjl2,Za hjt,List.drop_append_of_le_length hjl2];rfl
   ·rw[if_neg hr1,if_neg hr1] at hst;refine(if_neg (by simpa using hr1)).mpr ?_;walk_at"vs";rw[hst];refine JS.at [some (wV R.ar uu),some (nat j'),some (nat b),some (tv (R.new s.ω uu)),some (.int (R.rise s.ω uu)),o 5,some (nat uu)] hjl2 ?_;dsimp only;rw[Za hjt];rfl
 ·intro o hle;exfalso;exact absurd hle (Nat.not_le.mpr hfin)
end
end
section
theorem J.frzRowsC{X:Cx}{α β:Type}{RR:ZM->β->α->Prop}{t:Sem α}{Q:β->St->Prop}{pre post:List (Addr × Cell)}{loc:List (Str × Option V)}{cap:List (Str × V)}{celf:V->List (Str × Option V)}(hc:∀ {a w d d'},Fz a w d d'->FzE a w (celf d) (celf d')):
  ∀ (rs:List Addr) (ls:List (List V)) (done:List V),rs.length=ls.length->J X RR t ⟨loc,celf (.list (done++ls.map V.list)),cap,pre++post⟩ Q->J X RR t ⟨loc,celf (.list (done++rs.map V.ref)),cap,pre++(rs.zip (ls.map Cell.list)++post)⟩ Q
 | [],[],done,_,h=>h
 | [],_::_,_,e,_=>nomatch e
 | _::_,[],_,e,_=>nomatch e
 | r::rs,l::ls,done,e,h=>by
  refine J.frz (a:=r) (c:=.list l) (B2:=⟨loc,celf (.list ((done++[V.list l])++rs.map V.ref)),cap,pre++(rs.zip (ls.map Cell.list)++post)⟩) ⟨rfl,⟨_,Cut.pre .here _,.rest⟩,FzE.refl _,hc (.list ?_),rfl⟩ (J.frzRowsC hc rs ls _ (Nat.succ.inj e) ?_)
  ·rw[append_assoc];exact FzL.pre (.cons .at (FzL.refl _)) _
  ·rw[append_assoc];exact h
noncomputable abbrev wvR(R:RunI)(l:List Nat):Option V:=some (.list (l.map (wV R.ar)))
noncomputable abbrev fzL(R:RunI)(a:LxA)(D:Uw)(push:List Nat)(wo st be ma rs cl rg pi su w cs sg le ot:Option V:=none):List (Str × Option V):=ruL R a.L (szR R) (raR R) (cpR D.rs) (some (.ref D.xr)) (wvR R push) (wvR R push) (clR R) wo st be ma rs cl rg pi su w cs sg le ot
noncomputable abbrev fzC(R:RunI)(ω:List (Int × Int × Int))(bk:List (List Bk))(tk:List (List Nat))(u:Option V):List (Str × Option V):=ruC R (siR R) (tpR R) (coR R) (some (.list (ω.map tv))) (some (.list (bk.map (V.list ∘ fun l=>l.map bkV)))) (some (.list (tk.map (V.list ∘ fun l=>l.map nat)))) u
noncomputable def fzM(R:RunI)(D:Uw)(m:List (Addr × Cell)):List (Addr × Cell):=m++(Se R D.rs++riM D.xr D.dr)
section
variable{X:Cx}{B:St}{k:Nat}{L:Addr}{Q:Fl->St->Prop}{R:RunI}{a:LxA}{D:Uw}{pre post:List (Addr × Cell)}
theorem RW.frz{i:Nat}{m:List (Addr × Cell)}{ω:List (Int × Int × Int)}{μ push:List Nat}{bk:List (List Bk)}{tk:List (List Nat)}{wo st be ma rs cl u:Option V}(hb:D.bs.length=bk.length)(hk:D.ks.length=tk.length)
  (h:RW X i ⟨ruL R a.L (szR R) (raR R) (cpR D.rs) (some (.ref D.xr)) (wvR R μ) (wvR R push) (clR R) wo st be ma rs cl,fzC R ω bk tk u,[],fzM R D m⟩ Q):RW X i ⟨loL R a D wo st be ma rs cl,loC R D u,[],m++Yo R D ω μ push bk tk⟩ Q:=by
 refine⟨?_⟩
 haveI h:=h.out
 unfold Yo;rw[<- append_assoc m];refine J.frzRowsC (celf:=fun d=>ruC R (siR R) (tpR R) (coR R) (some (.ref D.Dm)) (some d) (rfR D.ks) u) (fun q=>.same (.same (.same (.same (.same (.same (.same (.same (.cons q (.same (.same .nil))))))))))) D.bs (bk.map fun l=>l.map bkV) [] (by rw[length_map];exact hb) ?_;rw[<- append_nil (D.ks.zip _)];refine J.frzRowsC (celf:=fun d=>ruC R (siR R) (tpR R) (coR R) (some (.ref D.Dm)) (some (.list ([]++(bk.map fun l=>l.map bkV).map V.list))) (some d) u) (fun q=>.same (.same (.same (.same (.same (.same (.same (.same (.same (.cons q (.same .nil))))))))))) D.ks (tk.map fun l=>l.map nat) [] (by rw[length_map];exact hk) ?_;rw[nil_append,nil_append,append_nil,map_map,map_map,show ∀ l,m++(Se R D.rs++(riM D.xr D.dr++l))=fzM R D m++l from fun l=>by unfold fzM;rw[append_assoc,append_assoc]];refine J.frz (a:=D.Dp) (c:=.list (push.map (wV R.ar))) (B2:=⟨ruL R a.L (szR R) (raR R) (cpR D.rs) (some (.ref D.xr)) (some (.ref D.Dt)) (wvR R push) (clR R) wo st be ma rs cl,ruC R (siR R) (tpR R) (coR R) (some (.ref D.Dm)) (some (.list (bk.map (V.list ∘ fun l=>l.map bkV)))) (some (.list (tk.map (V.list ∘ fun l=>l.map nat)))) u,[],fzM R D m++[(D.Dm,.list (ω.map tv)),(D.Dt,.list (μ.map (wV R.ar)))]⟩) ⟨rfl,⟨_,Cut.pre (.tail (.tail .here)) _,.rest⟩,?_,FzE.refl _,rfl⟩ ?_
 ·exact .same (.same (.same (.same (.same (.same (.same (.same (.same (.cons .at (FzE.refl _))))))))))
 refine J.frz (a:=D.Dt) (c:=.list (μ.map (wV R.ar))) (B2:=⟨ruL R a.L (szR R) (raR R) (cpR D.rs) (some (.ref D.xr)) (wvR R μ) (wvR R push) (clR R) wo st be ma rs cl,ruC R (siR R) (tpR R) (coR R) (some (.ref D.Dm)) (some (.list (bk.map (V.list ∘ fun l=>l.map bkV)))) (some (.list (tk.map (V.list ∘ fun l=>l.map nat)))) u,[],fzM R D m++[(D.Dm,.list (ω.map tv))]⟩) ⟨rfl,⟨_,Cut.pre (.tail .here) _,.rest⟩,?_,FzE.refl _,rfl⟩ ?_
 ·exact .same (.same (.same (.same (.same (.same (.same (.same (.cons .at (FzE.refl _)))))))))
 refine J.frz (a:=D.Dm) (c:=.list (ω.map tv)) (B2:=⟨ruL R a.L (szR R) (raR R) (cpR D.rs) (some (.ref D.xr)) (wvR R μ) (wvR R push) (clR R) wo st be ma rs cl,fzC R ω bk tk u,[],fzM R D m⟩) ⟨rfl,⟨_,Cut.last _,.rest⟩,FzE.refl _,?_,rfl⟩ h;exact .same (.same (.same (.same (.same (.same (.same (.cons .at (FzE.refl _))))))))
theorem H9(G:G3 X)(hA:Rm X.A (k + 7))(hR0:RunOk R){push:List Nat}{wo st be ma rs cl:Option V}{ω:List (Int × Int × Int)}{bk:List (List Bk)}{tk:List (List Nat)}{u:Option V}{m:List (Addr × Cell)}(h:∀ Dc,Q .next ⟨fzL R a D push wo st be ma rs cl (some (.bool true)) (some (.ref Dc)),fzC R ω bk tk u,[],m++[(Dc,.list [])]⟩):
  RS (X.callee (Xu X.w.params).1 L 170) 7 ⟨fzL R a D push wo st be ma rs cl,fzC R ω bk tk u,[],m⟩ Q:=by
 refine RS.i G hA fun hR hh G'=>?_;refine ES.asgSw (names:=["right", "picks"]) hh ?_ (by walk_at"vside") (by walk_at"vside");walk_at"v";walk_at"v";refine EV.andN ?_;refine EVA.cons ?_;walk_at"vs";refine CMP.eqS (n:=2) hR (SQ.listMap fun x _=>SQ.str ..) ?_;walk_at"vs";refine(if_pos rfl).mpr ?_;refine EVA.one ?_;walk_at"vs";refine EV.lcm (α:=Nat) ?_ (by kernel_rfl) (by kernel_rfl) rfl (by intro _;rfl);refine EV.rangeC (by walk_at"vg") ?_;walk_at"vs";refine CALL.range ?_;refine⟨_,_,_,List.range R.n,nat,fun i=>dcV (R.ar.getD i "") i,ITERC.rngN hh (le_trans hR0.n40 (by decide)),by walk_at"vsc",by rw[length_range];exact hR0.nsl,?_,?_⟩
 ·intro C D c i hi
  haveI hil:=mem_range.mp hi
  walk_at"v";refine EV.dict1 fun b=>?_;walk_at"vs";refine SUB.li i "" rfl hil hR0.nsl ?_;walk_at"vs";refine⟨rfl,_,rfl,?_⟩;walk_at"vs";exact⟨rfl,rfl,by walk_at"vback"⟩
 refine CMP.eqS (n:=3) hR (SQ.listMap fun x _=>SQ.sdict (fun _=>.int ((1 + x:Nat):Int)) rfl (fun k hk=>by rw[mem_singleton] at hk;subst hk;rw[Zd,if_pos rfl]) (fun i k d h1 h2=>by
  cases i with
  | zero=>cases h2;exact SQ.int ..
  | succ i=>exact nsE h2)) ?_
 walk_at"vs";refine EV.listM ?_;walk_at"vss";intro Dc;walk_at"vs";refine⟨(by decide:2 ≤ sizeLine),_,rfl,rfl,?_⟩;refine SNs.cons ?_;walk_at"v";refine SNs.cons ?_;walk_at"v";refine SNs.nil ?_;exact h Dc
end
end
section
theorem Qe(x y:Int)(xs ys:List Int):Yp (x::xs) (y::ys)=if x == y then Yp xs ys else decide (x < y):=rfl
theorem Mk(x y s:Int)(xs ys:List Int):(b2i (Yp (y::ys) (x::xs)) - b2i (Yp (x::xs) (y::ys))) * s=if x < y then -s else if y < x then s else (b2i (Yp ys xs) - b2i (Yp xs ys)) * s:=by
 rw[Qe,Qe]
 by_cases h1:x < y
 ·haveI h2:¬ y < x:=Int.lt_asymm h1
  rw[if_pos h1,if_neg (by simpa using Ne.symm (Int.ne_of_lt h1)),if_neg (by simpa using Int.ne_of_lt h1),decide_eq_false h2,decide_eq_true h1];show(0 - 1) * s=_;rw[Int.zero_sub,Int.neg_one_mul]
 rw[if_neg h1]
 by_cases h2:y < x
 ·rw[if_pos h2,if_neg (by simpa using Int.ne_of_lt h2),if_neg (by simpa using Ne.symm (Int.ne_of_lt h2)),decide_eq_false h1,decide_eq_true h2];show(1 - 0) * s=_;rw[sub_zero,one_mul]
 ·haveI e:x=y:=Int.le_antisymm (Int.not_lt.mp h2) (Int.not_lt.mp h1)
  subst e;rw[if_neg h2,beq_self_eq_true,if_pos rfl,if_pos rfl]
noncomputable def Vg(l:Int × Int × Int):List Int:=[l.2.2, -l.2.1,l.1]
theorem Kw(s:Int)(l r:Int × Int × Int)(c:Nat):Yb (([(2,s),(1, -s),(0,s)]:List (Nat × Int)).take c) l r=(b2i (Yp ((Vg r).take c) ((Vg l).take c)) - b2i (Yp ((Vg l).take c) ((Vg r).take c))) * s:=by
 haveI e0:∀ l r:Int × Int × Int,Yb [] l r=(b2i (Yp [] []) - b2i (Yp [] [])) * s:=fun l r=>by rw[Int.sub_self,Int.zero_mul];rfl
 haveI st:∀ (i:Nat) (d x y:Int) (cs:List (Nat × Int)) (xs ys:List Int),(d=s /\ Zw l i=x /\ Zw r i=y \/ d= -s /\ Zw l i= -x /\ Zw r i= -y)->Yb cs l r=(b2i (Yp ys xs) - b2i (Yp xs ys)) * s->Yb ((i,d)::cs) l r=(b2i (Yp (y::ys) (x::xs)) - b2i (Yp (x::xs) (y::ys))) * s:=fun i d x y cs xs ys h h2=>by
  rw[Mk,<- h2];show(if Zw l i < Zw r i then -d else if Zw r i < Zw l i then d else Yb cs l r)=_;rcases h with⟨rfl,rfl,rfl⟩ | ⟨rfl,e1,e2⟩
  ·rfl
  ·rw[e1,e2]
   by_cases h1:x < y
   ·rw[if_pos h1,if_neg (by omega),if_pos (by omega)]
   ·rw[if_neg h1]
    by_cases h3:y < x
    ·rw[if_pos h3,if_pos (by omega),neg_neg]
    ·rw[if_neg h3,if_neg (by omega),if_neg (by omega)]
 match c with
 | 0=>exact e0 l r
 | 1=>exact st 2 s _ _ _ _ _ (.inl ⟨rfl,rfl,rfl⟩) (e0 l r)
 | 2=>exact st 2 s _ _ _ _ _ (.inl ⟨rfl,rfl,rfl⟩) (st 1 (-s) _ _ _ _ _ (.inr ⟨rfl,(neg_neg _).symm,(neg_neg _).symm⟩) (e0 l r))
 | c + 3=>exact st 2 s _ _ _ _ _ (.inl ⟨rfl,rfl,rfl⟩) (st 1 (-s) _ _ _ _ _ (.inr ⟨rfl,(neg_neg _).symm,(neg_neg _).symm⟩) (st 0 s _ _ _ _ _ (.inl ⟨rfl,rfl,rfl⟩) (by rw[List.take_nil,List.take_nil];exact e0 l r)))
theorem RunI.sign_eq(R:RunI)(m:List (Int × Int × Int))(u:Nat):R.sign m u=(b2i (Yp ((Vg (mkA m (R.lead u).2)).take (R.κ.getD u 0)) ((Vg (mkA m (R.lead u).1)).take (R.κ.getD u 0))) - b2i (Yp ((Vg (mkA m (R.lead u).1)).take (R.κ.getD u 0)) ((Vg (mkA m (R.lead u).2)).take (R.κ.getD u 0)))) * R.ρ.getD u 0:=Kw _ _ _ _
structure Sk(R:RunI)(s:Xx):Prop where
 cc:∀ u,u < R.n->0 ≤ (Zk R.wy (s.φ.getD u [])).cc /\ (Zk R.wy (s.φ.getD u [])).cc ≤ 1000
 tt:∀ u,u < R.n->(Zk R.wy (s.φ.getD u [])).tt=(mkA s.ω u).2.2
 sm:∀ u,u < R.n->((s.φ.getD u []).length:Int) + 1=2 + (((List.range R.n).filter fun w=>decide (w ∈ [(R.lead u).1,(R.lead u).2])).map fun w=>(Zk R.wy (s.φ.getD w [])).cc).sum
 lt:∀ u,u < R.n->∀ e ∈ s.φ.getD u [],e.1 < R.n
 lm:s.ω.length=R.n
 lh:s.φ.length=R.n
 hl:∀ u,(s.φ.getD u []).length ≤ 130
noncomputable def smF(H:List (Nat × Int × Int))(k:Nat):Int:=((H.take k).map fun e=>1 + (e.1:Int)).sum
theorem M2{H:List (Nat × Int × Int)}{k:Nat}{e:Nat × Int × Int}(h:H[k]?=some e):smF H (k + 1)=smF H k + 1 + (e.1:Int):=by
 unfold smF;rw[Za h,map_append,sum_append,List.map_singleton,List.sum_singleton,Int.add_assoc]
theorem Kz(R:RunI)(H:List (Nat × Int × Int)):(Yl R.wy H).map (fun b=>V.tup [.int b.nc,.int b.ls.sum])=((List.range (H.length + 1)).map (smF H)).map fun x=>V.tup [.int x,.int x]:=by
 unfold Yl;rw[map_map,map_map];refine map_congr_left fun k _=>?_
 haveI t:=V7 R.wy (H.take k)
 show V.tup [.int (Zk R.wy (H.take k)).nc,.int (Zk R.wy (H.take k)).ls.sum]=_;rw[t.nc,t.sum];rfl
theorem Qm(R:RunI)(hw:R.ar.Nodup){w:Nat}(hl:w < R.n):∀ {H:List (Nat × Int × Int)},(∀ e ∈ H,e.1 < R.n)->((H.filter fun e=>decide (R.wy.kf e=R.ar.getD w "")).map R.wy.xf).sum=((((H.map (·.1)).map nat).countP (isI w):Nat):Int) * (1 + (w:Int))
 | [],_=>by rw[List.filter_nil];exact(Int.zero_mul _).symm
 | e::H,h=>by
  haveI ih:=Qm R hw hl (fun e he=>h e (mem_cons_of_mem _ he))
  haveI he:=h e mem_cons_self
  rw[filter_cons,map_cons,map_cons,countP_cons];show(List.map R.wy.xf (if decide (R.ar.getD e.1 "" =R.ar.getD w "")=true then _ else _)).sum=((_ + if ((e.1:Int) == (w:Int))=true then 1 else 0:Nat):Int) * _
  by_cases q:e.1=w
  ·rw[q,if_pos (decide_eq_true rfl),beq_self_eq_true,if_pos rfl,map_cons,sum_cons,ih,Int.natCast_add,Int.add_mul];show(1 + (e.1:Int)) + _=_;rw[q,add_comm];exact congrArg _ (one_mul _).symm
  ·rw[if_neg (by rw[decide_eq_true_eq];exact fun e2=>q (U0 hw he hl e2)),if_neg (by rw[beq_iff_eq];exact fun e2=>q (ofNat_inj.mp e2)),ih,Nat.add_zero]
theorem Gz{R:RunI}(h0:RunOk R){H:List (Nat × Int × Int)}(h:∀ e ∈ H,e.1 < R.n):Z9 (((H.map (·.1)).filter fun _=>true).map fun w=>(R.ar.getD w "",V.int (((((H.map (·.1)).map nat).countP (isI w):Nat):Int) * (1 + (w:Int))))) ([],[])=((Ss R.wy H).1,(Ss R.wy H).2.map V.int):=by
 rw[filter_eq_self.mpr (fun _ _=>rfl),map_map]
 haveI:=Tz V.int (H.map fun j=>(R.wy.kf j,((H.filter fun i=>decide (R.wy.kf i=R.wy.kf j)).map R.wy.xf).sum)) [] []
 rw[map_map] at this;refine Eq.trans ?_ this;congr 1;refine map_congr_left fun e he=>?_
 haveI q:=Qm R h0.nd (h e he) h
 show(R.ar.getD e.1 "",V.int _)=(R.ar.getD e.1 "",V.int ((H.filter fun i=>decide (R.wy.kf i=R.ar.getD e.1 "")).map R.wy.xf).sum)
 rw[q]
end
section
theorem Gs{R:RunI}{D:Uw}{m:List (Addr × Cell)}{u:Nat}{r:Addr × Addr}(hr:D.rs[u]?=some r)(hu:u < R.n):(r.1,Cell.raw (·=instObj 38 r.2)) ∈ fzM R D m /\ (r.2,Cell.ns [("comp_select_list",.list ((R.cs u).map csV))]) ∈ fzM R D m:=by
 haveI h:(r,u) ∈ D.rs.zip (List.range R.n):=by
  refine mem_of_getElem? (i:=u) ?_;rw[getElem?_zip_eq_some];exact⟨hr,getElem?_range hu⟩
 exact⟨mem_right (mem_left (mem_flatMap.mpr ⟨_,h,mem_hd⟩)),mem_right (mem_left (mem_flatMap.mpr ⟨_,h,mem_tl mem_hd⟩))⟩
theorem Qu{α:Type}(y:Wy α)(l:List α):(Yl y l).getD ((Yl y l).length - 1 - 0) bk0=Zk y l:=by
 rw[V1,Sh,getD_eq_getElem?_getD,getElem?_append_right (by rw[length_map,length_range];exact le_refl _),length_map,length_range,Nat.add_sub_cancel,Nat.sub_zero,sub_self];rfl
theorem RunOk.line4{R:RunI}(h:RunOk R)(w:Nat):R.ψ.getD w 0 ≤ 4:=by
 rw[getD_eq_getElem?_getD];cases e:R.ψ[w]? with
 | none=>exact zero_le _
 | some l=>exact le_of_lt (h.l4 l (mem_of_getElem? e))
noncomputable def RunI.pick(R:RunI)(m:List (Int × Int × Int))(u:Nat):Nat:=if R.sign m u=1 then 1 else 0
section
variable{X:Cx}{B:St}{k:Nat}{L:Addr}{Q:Fl->St->Prop}{R:RunI}{a:LxA}{D:Uw}{s:Xx}
theorem H8(G:G3 X)(hA:Rm X.A (k + 7))(hR0:RunOk R)(hD:Ld R D)(hF:Sk R s){wo st be ma rs cl u:Option V}{m:List (Addr × Cell)}{Dc:Addr}
  (h:∀ su w cs sg le ot u,Q .next ⟨fzL R a D s.push wo st be ma rs cl (some (.bool true)) (some (.ref Dc)) su w cs sg le ot,fzC R s.ω (bkS R s.φ) (tkS s.φ) u,[],fzM R D m++[(Dc,.list (((List.range R.n).map (R.pick s.ω)).map nat))]⟩):
  RS (X.callee (Xu X.w.params).1 L 170) 8 ⟨fzL R a D s.push wo st be ma rs cl (some (.bool true)) (some (.ref Dc)),fzC R s.ω (bkS R s.φ) (tkS s.φ) u,[],fzM R D m++[(Dc,.list [])]⟩ Q:=by
 refine RS.i G hA fun hR hh G'=>?_
 haveI hn6:=hR0.n5.2
 haveI hlm:=hF.lm
 haveI hlh:=hF.lh
 haveI hlb:(bkS R s.φ).length=R.n:=by unfold bkS;rw[length_map,hlh]
 haveI hlk:(tkS s.φ).length=R.n:=by unfold tkS;rw[length_map,hlh]
 haveI h5s:∀ {m:Nat},m=R.n->m ≤ sizeLine:=fun e=>e ▸ hR0.nsl
 refine ES.for hh ?_;refine EV.rangeC (by walk_at"vg") ?_;walk_at"vs";refine CALL.range ?_;refine .jr (n:=R.n) hh (le_trans hR0.n40 (by decide)) (fun _=>True) (fun j o=>⟨fzL R a D s.push wo st be ma rs cl (some (.bool true)) (some (.ref Dc)) (o 0) (o 1) (o 2) (o 3) (o 4) (o 5),fzC R s.ω (bkS R s.φ) (tkS s.φ) (o 6),[],fzM R D m++[(Dc,.list (((List.range j).map (R.pick s.ω)).map nat))]⟩) [none,none,none,none,none,none,u] trivial rfl ?_ ?_
 ·intro j' o hul _;rw[range_succ,map_append,map_append];obtain⟨hl0,hl1⟩:=R.lead_lt hR0 hul
  haveI hsm:=hF.sm j' hul
  haveI hcc:=hF.cc
  haveI htt:=hF.tt j' hul
  haveI hlt:=hF.lt j' hul
  haveI hHl:=hF.hl j'
  haveI hhu:=Zi (α:=List (Nat × Int × Int)) [] (hlh.symm ▸ hul)
  haveI hku:(tkS s.φ).getD j' []=(s.φ.getD j' []).map (·.1):=by unfold tkS;rw[getD_eq_getElem?_getD,getElem?_map,hhu];rfl
  haveI hbu:∀ w,w < R.n->(bkS R s.φ).getD w []=Yl R.wy (s.φ.getD w []):=fun w hw=>by unfold bkS;rw[getD_eq_getElem?_getD,getElem?_map,Zi (α:=List (Nat × Int × Int)) [] (hlh.symm ▸ hw)];rfl
  haveI hbj:=hbu j' hul
  generalize bkS R s.φ=bk at *;generalize tkS s.φ=tk at *;generalize hH:s.φ.getD j' []=H at *;walk_at"v";walk_at"v";walk_at"v";refine EV.listM ?_;walk_at"vss";intro Ds;walk_at"vs";refine ES.for hh ?_;walk_at"vs";refine SUB.li j' [] rfl (hlk.symm ▸ hul) (h5s hlk) ?_;refine pq (by rw[hku]) ?_;generalize hpk:(((List.range j').map (R.pick s.ω)).map nat)=pks at *;refine .js _ (ITER.list hh) (fun _=>True) (fun i q=>⟨fzL R a D s.push wo st be ma rs cl (some (.bool true)) (some (.ref Dc)) (some (.ref Ds)) (q 0) (o 2) (o 3) (o 4) (o 5),fzC R s.ω bk tk (some (nat j')),[],fzM R D m++[(Dc,.list pks)]++[(Ds,.list (((List.range i).map (smF H)).map V.int++[.int (smF H i)]))]⟩) [o 1] trivial rfl ?_ ?_
  ·intro i di q hi _
   haveI hi1:((H.map (·.1)).map nat)[i]?=some di:=hi
   clear hi;rw[map_map,getElem?_map,Option.map_eq_some_iff] at hi1;obtain⟨e,hi,hd⟩:=hi1
   haveI hd:nat e.1=di:=hd
   subst hd
   haveI hss:=M2 hi
   haveI hil:i ≤ 130:=le_trans (le_of_lt (List.getElem?_eq_some_iff.mp hi).1) hHl
   walk_at"vs";refine EV.meth "list" "list.append" F.plainAttrs_list F.slot_list_append F.type_list_append ?_;walk_at"vs";refine⟨TypeV.cell (by walk_at"vm"),?_⟩;walk_at"vs";refine SUB.lcellLast (d:=.int (smF H i)) (by walk_at"vm") ?_;walk_at"vs";refine CALL.append (by walk_at"vm") (by walk_at"vum") ?_ (by simp only[length_append,length_map,length_range];exact le_trans (add_le_add_right hil 1) (by decide));walk_at"vs";refine JS.at [some (nat e.1)] trivial ?_;rw[range_succ,map_append,map_append,hss];rfl
  intro q _;dsimp only;rw[show((fun l=>List.map nat l) (H.map (·.1))).length=H.length by dsimp only;rw[length_map,length_map]]
  haveI hsf:((List.range H.length).map (smF H)).map V.int++[.int (smF H H.length)]=((List.range (H.length + 1)).map (smF H)).map V.int:=by rw[range_succ,map_append,map_append];rfl
  rw[hsf]
  haveI hsl:((List.range (H.length + 1)).map (smF H)).length=H.length + 1:=by rw[length_map,length_range]
  haveI hrows:=Kz R H
  haveI hcl:=Gz hR0 hlt
  haveI hbl:=V1 R.wy H
  haveI hbg:=Qu R.wy H
  generalize (List.range (H.length + 1)).map (smF H)=sm at *;walk_at"v";refine J.frz (a:=Ds) (c:=.list (sm.map V.int)) (B2:=⟨fzL R a D s.push wo st be ma rs cl (some (.bool true)) (some (.ref Dc)) (some (.list (sm.map V.int))) (q 0) (o 2) (o 3) (o 4) (o 5),fzC R s.ω bk tk (some (nat j')),[],fzM R D m++[(Dc,.list pks)]⟩) ⟨rfl,⟨_,Cut.last _,.rest⟩,?_,FzE.refl _,rfl⟩ ?_
  ·exact .same (.same (.same (.same (.same (.same (.same (.same (.same (.same (.same (.same (.same (.same (.same (.same (.same (.same (.same (.cons .at (FzE.refl _))))))))))))))))))))
  refine ES.asgDC ?_ (by walk_at"vside") (by walk_at"vside");refine CVG.dcs (α:=Nat) ?_ (by kernel_rfl) (by kernel_rfl) rfl (by intro _;rfl);walk_at"vs";refine SUB.li j' [] rfl (hlk.symm ▸ hul) (h5s hlk) ?_;refine pq (by rw[hku]) ?_
  haveI hHs:(H.map (·.1)).length ≤ sizeLine:=by rw[length_map];exact le_trans hHl (by decide)
  refine⟨_,_,_,H.map (·.1),nat,fun w=>(R.ar.getD w "",V.int (((((H.map (·.1)).map nat).countP (isI w):Nat):Int) * (1 + (w:Int)))),fun _=>true,ITERC.list hh,by walk_at"vsc",hHs,?_,?_⟩
  ·intro C D c x hx;obtain⟨e,he,rfl⟩:=mem_map.mp hx
   haveI hxl:=hlt e he
   walk_at"vs";refine⟨rfl,?_⟩;refine(if_pos rfl).mpr ?_;walk_at"vs";refine SUB.li e.1 "" rfl hxl hR0.nsl ?_;refine⟨rfl,?_⟩;walk_at"vs";refine EV.meth "list" "list.count" F.plainAttrs_list F.slot_list_count F.type_list_count ?_;walk_at"vs";refine SUB.li j' [] rfl (hlk.symm ▸ hul) (h5s hlk) ?_;refine pq (by rw[hku]) ?_;refine⟨TypeV.list,?_⟩;walk_at"vs";refine CALL.count 1 hR (f:=isI e.1) (Tg _ _) ?_;walk_at"vs";refine BIN.mul ?_ ⟨Int.lt_of_lt_of_le (by decide) (natCast_nonneg _),Int.lt_of_le_of_lt (ofNat_le.mpr (le_trans List.countP_le_length (by rw[length_map,length_map];exact hHl))) (by decide)⟩;exact⟨rfl,by walk_at"vback"⟩
  rw[hcl];walk_at"v"
  haveI hcj:=fun w hw=>hbu w hw
  haveI hT:=V7 R.wy H
  walk_at"vs";refine(if_pos rfl).mpr ?_;walk_at"v";refine EV.lenC (by walk_at"vg") ?_;walk_at"vs";refine CALL.lenL (by rw[length_map,hsl];exact le_trans (add_le_add_right hHl 1) (by decide)) ?_;refine pq (by rw[length_map,hsl]) ?_;walk_at"v";walk_at"v";refine EV.callB (by walk_at"vg") "sum" (by walk_at"vbn") ?_;walk_at"v";refine EV.lcf (α:=Nat) ?_ (by kernel_rfl) (by kernel_rfl) rfl (by intro _;rfl);refine EV.rangeC (by walk_at"vg") ?_;walk_at"vs";refine CALL.range ?_;refine⟨_,[],_,List.range R.n,nat,V.int ∘ fun w=>(Zk R.wy (s.φ.getD w [])).cc,fun w=>decide (w ∈ [(R.lead j').1,(R.lead j').2]),ITERC.rngN hh (le_trans hR0.n40 (by decide)),by walk_at"vsc",by rw[length_range];exact hR0.nsl,?_,?_⟩
  ·intro C D c x hx
   haveI hxl:=mem_range.mp hx
   walk_at"vs";refine SUB.li j' (0,0) rfl (hR0.dl.symm ▸ hul) (h5s hR0.dl) ?_;show CMP _ _ _ (V.tup ([(R.lead j').1,(R.lead j').2].map nat)) _ _;refine CMP.inT 1 hR (Tg (x:Int) _) ?_;refine pq (by rw[Jc]) ?_;walk_at"vs";refine⟨rfl,?_⟩;split
   ·walk_at"vs";refine SUB.li x [] rfl (hlb.symm ▸ hxl) (h5s hlb) ?_;refine pq (by rw[hbu x hxl]) ?_;walk_at"vs";refine SUB.lneg (xs:=Yl R.wy (s.φ.getD x [])) (enc:=bkV) 0 bk0 rfl (by rw[V1];exact succ_pos _) (by rw[V1];exact le_trans (add_le_add_right (hF.hl x) 1) (by decide)) ?_;refine pq (by rw[Qu]) ?_;walk_at"vs";refine SUB.ti 0 (d:=.int (Zk R.wy (s.φ.getD x [])).cc) rfl rfl (le_of_ble_eq_true rfl) ?_;exact⟨rfl,by walk_at"vback"⟩
   ·walk_at"vback"
  refine pq (by rw[<- map_map]) ?_;walk_at"vs";refine CALL.sum hh (by rw[length_map];exact le_trans (length_filter_le ..) (by rw[length_range];exact le_trans hn6 (by decide))) (fun z hz=>?_) ?_
  ·obtain⟨c,hc,rfl⟩:=mem_map.mp hz
   haveI:=hcc c (mem_range.mp (mem_filter.mp hc).1)
   exact⟨Int.le_trans (by decide) this.1,Int.le_trans this.2 (by decide)⟩
  walk_at"vs";rw[show(((H.length + 1:Nat):Int) == 2 + (((List.range R.n).filter fun w=>decide (w ∈ [(R.lead j').1,(R.lead j').2])).map fun w=>(Zk R.wy (s.φ.getD w [])).cc).sum)=true by rw[<- hsm];exact beq_self_eq_true _];walk_at"vs";refine(if_pos rfl).mpr ?_;walk_at"v";refine EV.lcm (α:=Bk) ?_ (by kernel_rfl) (by kernel_rfl) rfl (by intro _;rfl);walk_at"vs";refine SUB.li j' [] rfl (hlb.symm ▸ hul) (h5s hlb) ?_;refine pq (by rw[hbj]) ?_;refine⟨_,_,_,Yl R.wy H,bkV,fun b=>V.tup [.int b.nc,.int b.ls.sum],ITERC.list hh,by walk_at"vsc",by rw[hbl];exact le_trans (add_le_add_right hHl 1) (by decide),?_,?_⟩
  ·intro C D c b hb;walk_at"vs";refine SUB.ti 1 (d:=.int b.nc) rfl rfl (le_of_ble_eq_true rfl) ?_;walk_at"v";refine EV.callG (by walk_at"vg") 63 (by walk_at"vgn") (o63 _) (f63 _) ?_;walk_at"vs";refine SUB.ti 4 (d:=.sdict b.ks (b.ls.map V.int)) rfl rfl (le_of_ble_eq_true rfl) ?_;walk_at"vs";refine sp_63 (k:=k + 5) (G3.comp G') hR ?_;walk_at"vss";exact⟨rfl,by walk_at"vback"⟩
  refine pq (by rw[hrows]) ?_;refine EV.lcm (α:=Int) ?_ (by kernel_rfl) (by kernel_rfl) rfl (by intro _;rfl);walk_at"vs";refine⟨_,_,_,sm,V.int,fun x=>V.tup [.int x,.int x],ITERC.list hh,by walk_at"vsc",by rw[hsl];exact le_trans (add_le_add_right hHl 1) (by decide),?_,?_⟩
  ·intro C D c x hx;walk_at"vss";exact⟨rfl,by walk_at"vback"⟩
  refine CMP.eqS (n:=3) hR (SQ.listMap fun x _=>SQ.tup2 (SQ.int ..) (SQ.int ..)) ?_;walk_at"vs";refine(if_pos rfl).mpr ?_;walk_at"vs";refine SUB.li j' [] rfl (hlb.symm ▸ hul) (h5s hlb) ?_;refine pq (by rw[hbj]) ?_;walk_at"vs";refine SUB.lneg (xs:=Yl R.wy H) (enc:=bkV) 0 bk0 rfl (by rw[hbl];exact succ_pos _) (by rw[hbl];exact le_trans (add_le_add_right hHl 1) (by decide)) ?_;refine pq (by rw[hbg]) ?_
  haveI hdk:=L3 R.wy H
  haveI hdl:=Kq R.wy H
  haveI hda:=Iy R.wy H
  haveI hct:=hT.ct
  haveI hdt:=hT.len
  generalize Zk R.wy H=T at htt hdk hda hct hdt ⊢;generalize Ss R.wy H=D2 at *;walk_at"vs";refine⟨_,rfl,?_⟩;walk_at"vs";refine SUB.tupDrop (k:=2) ⟨by decide,by show 2 ≤ 5;decide⟩ (by show 5 ≤ 1000;decide) ?_;walk_at"vs";refine SUB.li j' (0,0,0) rfl (hlm.symm ▸ hul) (h5s hlm) ?_;walk_at"vs";refine SUB.ti 2 (d:=.int (mkA s.ω j').2.2) rfl rfl (le_of_ble_eq_true rfl) ?_;walk_at"v";refine EV.callB (by walk_at"vg") "sum" (by walk_at"vbn") ?_;walk_at"v";refine EV.lcm (α:=Nat) ?_ (by kernel_rfl) (by kernel_rfl) rfl (by intro _;rfl);walk_at"vs";refine SUB.li j' [] rfl (hlk.symm ▸ hul) (h5s hlk) ?_;refine pq (by rw[hku]) ?_;refine⟨_,_,_,H.map (·.1),nat,V.int ∘ fun w=>((R.ψ.getD w 0:Nat):Int),ITERC.list hh,by walk_at"vsc",hHs,?_,?_⟩
  ·intro C D c x hx;obtain⟨e,he,rfl⟩:=mem_map.mp hx;walk_at"vs";refine SUB.li e.1 0 rfl (hR0.ll.symm ▸ hlt e he) (h5s hR0.ll) ?_;exact⟨rfl,by walk_at"vback"⟩
  refine pq (by rw[<- map_map]) ?_;walk_at"vs";refine CALL.sum hh (by rw[length_map,length_map];exact le_trans hHl (by decide)) (fun z hz=>?_) ?_
  ·obtain⟨c,hc,rfl⟩:=mem_map.mp hz;exact⟨Int.le_trans (by decide) (natCast_nonneg _),Int.le_trans (ofNat_le.mpr (hR0.line4 c)) (by decide)⟩
  rw[show((H.map (·.1)).map fun w=>((R.ψ.getD w 0:Nat):Int)).sum=T.ct by rw[hct,map_map];rfl,<- htt];walk_at"vss";refine CMP.eqDS (ns:=[T.tt,T.ct]) hR hdt hdl (by rw[hdk]) hda ?_;walk_at"vs"
  haveI hrs:j' < D.rs.length:=hD.rs.symm ▸ hul
  obtain⟨hc1,hc2⟩:=Gs (R:=R) (D:=D) (m:=m) (Zi (0,0) hrs) hul;refine EV.cmp38 (k:=k + 5) G' hR ?_;walk_at"vs";refine SUB.li (xs:=D.rs) (enc:=fun r=>V.ref r.1) j' (0,0) rfl hrs (h5s hD.rs) ?_;refine .mk _ _ (R.cs j') rfl (Gy R j') ⟨mem_left hc1,mem_left hc2⟩ ?_;clear hc1 hc2;walk_at"vs";refine SUB.li j' (0,0) rfl (hR0.dl.symm ▸ hul) (h5s hR0.dl) ?_;walk_at"vs";refine SUB.ti 0 (d:=nat (R.lead j').1) rfl rfl (le_of_ble_eq_true rfl) ?_;refine SUB.li (R.lead j').1 (0,0,0) rfl (hlm.symm ▸ hl0) (h5s hlm) ?_;walk_at"vs";refine SUB.li j' (0,0) rfl (hR0.dl.symm ▸ hul) (h5s hR0.dl) ?_;walk_at"vs";refine SUB.ti 1 (d:=nat (R.lead j').2) rfl rfl (le_of_ble_eq_true rfl) ?_;refine SUB.li (R.lead j').2 (0,0,0) rfl (hlm.symm ▸ hl1) (h5s hlm) ?_;walk_at"vss";refine⟨mkA s.ω (R.lead j').1,mkA s.ω (R.lead j').2,rfl,rfl,?_⟩;refine pq (by rw[show Yb (R.cs j') (mkA s.ω (R.lead j').1) (mkA s.ω (R.lead j').2)=R.sign s.ω j' from rfl]) ?_
  haveI hsg:=R.sign_eq s.ω j'
  haveI hsb:R.sign s.ω j'= -1 \/ R.sign s.ω j'=0 \/ R.sign s.ω j'=1:=Qs (hR0.cs1 hul) _ _
  haveI hpi:R.pick s.ω j'=if R.sign s.ω j'=1 then 1 else 0:=rfl
  generalize R.sign s.ω j'=sn at *;walk_at"v";walk_at"v";walk_at"vag";refine EV.lcm (α:=Nat) ?_ (by kernel_rfl) (by kernel_rfl) rfl (by intro _;rfl);walk_at"vs";refine SUB.li j' (0,0) rfl (hR0.dl.symm ▸ hul) (h5s hR0.dl) ?_
  haveI hjc:j' < R.κ.length:=hR0.cl.symm ▸ hul
  haveI hc3:=hR0.c3 j'
  refine⟨_,_,_,[(R.lead j').1,(R.lead j').2],nat,fun w=>V.tup (((Vg (mkA s.ω w)).take (R.κ.getD j' 0)).map V.int),ITERC.tup hh,by walk_at"vsc",(by decide:2 ≤ sizeLine),?_,?_⟩
  ·intro C D c x hx
   haveI hxl:x < R.n:=by
    rcases mem_cons.mp hx with rfl | hx
    ·exact hl0
    ·rw[mem_singleton] at hx;subst hx;exact hl1
   walk_at"vs";refine SUB.li x (0,0,0) rfl (hlm.symm ▸ hxl) (h5s hlm) ?_;walk_at"vs";refine SUB.ti 2 (d:=.int (mkA s.ω x).2.2) rfl rfl (le_of_ble_eq_true rfl) ?_;walk_at"vs";refine SUB.li x (0,0,0) rfl (hlm.symm ▸ hxl) (h5s hlm) ?_;walk_at"vs";refine SUB.ti 1 (d:=.int (mkA s.ω x).2.1) rfl rfl (le_of_ble_eq_true rfl) ?_;walk_at"vs";refine SUB.li x (0,0,0) rfl (hlm.symm ▸ hxl) (h5s hlm) ?_;walk_at"vs";refine SUB.ti 0 (d:=.int (mkA s.ω x).1) rfl rfl (le_of_ble_eq_true rfl) ?_;walk_at"vss";refine SUB.li j' 0 rfl hjc (h5s hR0.cl) ?_;refine⟨_,rfl,?_⟩;walk_at"vs";refine SUB.tupTo (k:=R.κ.getD j' 0) hc3 (by show 3 ≤ 1000;decide) ?_;refine⟨?_,by walk_at"vback"⟩;rw[map_take];rfl
  refine AS.list hh ?_ (by walk_at"vside") (by intro _;walk_at"vside") (by intro _;walk_at"vside");show ASs _ _ [V.tup (((Vg (mkA s.ω (R.lead j').1)).take (R.κ.getD j' 0)).map V.int),V.tup (((Vg (mkA s.ω (R.lead j').2)).take (R.κ.getD j' 0)).map V.int)] _ _
  haveI hll:∀ x y:Int × Int × Int,((Vg y).take (R.κ.getD j' 0)).length=((Vg x).take (R.κ.getD j' 0)).length:=fun x y=>by rw[length_take,length_take];rfl
  haveI hl12:=hll (mkA s.ω (R.lead j').1) (mkA s.ω (R.lead j').2)
  generalize (Vg (mkA s.ω (R.lead j').1)).take (R.κ.getD j' 0)=t1 at *;generalize (Vg (mkA s.ω (R.lead j').2)).take (R.κ.getD j' 0)=t2 at *;walk_at"vs";refine EV.andN ?_;refine EVA.cons ?_;walk_at"vs";refine(if_pos rfl).mpr ?_;refine EVA.cons ?_;refine EV.callB (by walk_at"vg") "isinstance" (by walk_at"vbn") ?_;walk_at"vs";refine CALL.isiII ?_;walk_at"vs";refine(if_pos rfl).mpr ?_;refine EVA.cons ?_;walk_at"vs";refine EV.callB (by walk_at"vg") "isinstance" (by walk_at"vbn") ?_;walk_at"vs";refine CALL.isiIB ?_;refine UNA.notB ?_;walk_at"vs";refine(if_pos (by rfl)).mpr ?_;refine EVA.one ?_;walk_at"vs";refine CMP.gtt hR hl12 ?_;walk_at"vs";refine CMP.ltt hR hl12 ?_;walk_at"vs";refine BIN.subB ?_;walk_at"vs";refine SUB.li j' 0 rfl (hR0.sl.symm ▸ hul) (h5s hR0.sl) ?_;refine BIN.mul ?_ ?_
  rotate_left
  ·cases Yp t2 t1 <;> cases Yp t1 t2 <;> decide
  walk_at"vs";rw[<- hsg,beq_self_eq_true];walk_at"vs";refine EV.meth "list" "list.append" F.plainAttrs_list F.slot_list_append F.type_list_append ?_;walk_at"vs";refine⟨TypeV.cell (mem_right mem_hd),?_⟩;walk_at"v";refine EV.ife2 (c:=sn == 1) (d1:=.int 1) (d2:=.int 0) ?_ ?_ ?_ ?_
  ·walk_at"vs";exact⟨rfl,rfl⟩
  ·walk_at"vs";exact⟨rfl,rfl⟩
  ·walk_at"vs";exact⟨rfl,rfl⟩
  refine pq (by rw[show(if (sn == 1)=true then V.int 1 else V.int 0)=nat (R.pick s.ω j') by rw[hpi];by_cases q:sn=1 <;> simp[q] <;> rfl]) ?_;walk_at"vs";refine CALL.append (mem_right mem_hd) (UpM.right UpM.head) ?_ (by rw[<- hpk,length_map,length_map,length_range];exact le_trans (le_of_lt hul) hR0.nsl);walk_at"vs";exact JS.at [_,_,_,_,_,_,_] trivial rfl
 ·intro o _;exact h _ _ _ _ _ _ _
end
end
section
theorem Q0(R:RunI):R.ar.map V.str=(List.range R.n).map (wV R.ar):=by
 refine ext_getElem? fun i=>?_;rw[getElem?_map,getElem?_map]
 by_cases h:i < R.n
 ·haveI h':i < R.ar.length:=h
  rw[getElem?_range h,Zi (α:=Str) "" h'];rfl
 ·rw[getElem?_eq_none (l:=R.ar) (le_of_not_lt h),getElem?_eq_none (l:=List.range R.n) (by rw[length_range];exact le_of_not_lt h)];rfl
theorem M8(R:RunI)(rs:List (Addr × Addr))(xr dr Dm Dt Dp:Addr)(bs ks:List Addr)(m post:List (Addr × Cell)):m++post++Se R rs++(riM xr dr++[(Dm,.list ((replicate R.n ((0:Int),(R.t0:Int),(0:Int))).map tv)),(Dt,.list []),(Dp,.list (R.ar.map V.str))])++(bs.zip ((replicate R.n [bkV bk0]).map Cell.list)++ks.zip ((replicate R.n []).map Cell.list))
  =m++(post++Yo R ⟨rs,xr,dr,Dm,Dt,Dp,bs,ks⟩ (R.run 0).ω [] (R.run 0).push (bkS R (R.run 0).φ) (tkS (R.run 0).φ)):=by
 haveI e1:(bkS R (R.run 0).φ).map (fun l=>l.map bkV)=replicate R.n [bkV bk0]:=by
  show((replicate R.n []).map (Yl R.wy)).map _=_;rw[map_replicate,map_replicate];rfl
 haveI e2:(tkS (R.run 0).φ).map (fun l=>l.map nat)=replicate R.n []:=by
  show((replicate R.n ([]:List (Nat × Int × Int))).map fun l=>l.map (·.1)).map _=_;rw[map_replicate,map_replicate];rfl
 unfold Yo;rw[e1,e2,Q0,append_assoc,append_assoc,append_assoc];rw[append_assoc (Se R rs)];rfl
section
variable{X:Cx}{B:St}{k:Nat}{L:Addr}{Q:Fl->St->Prop}{P:V->St->Prop}{R:RunI}{a:LxA}{D:Uw}{s:Xx}
theorem H7(G:G3 X)(hA:Rm X.A (k + 7)){word:Str}{st be ma rs cl u su w cs sg le ot:Option V}{m:List (Addr × Cell)}{Dc:Addr}{ξ:List Nat}
  (h:Q (.ret (.tup [.list (s.ω.map tv),.list (ξ.map nat),.bool true,.str word])) ⟨fzL R a D s.push (some (.str word)) st be ma rs cl (some (.bool true)) (some (.list (ξ.map nat))) su w cs sg le ot,fzC R s.ω (bkS R s.φ) (tkS s.φ) u,[],m⟩):
  RS (X.callee (Xu X.w.params).1 L 170) 9 ⟨fzL R a D s.push (some (.str word)) st be ma rs cl (some (.bool true)) (some (.ref Dc)) su w cs sg le ot,fzC R s.ω (bkS R s.φ) (tkS s.φ) u,[],m++[(Dc,.list (ξ.map nat))]⟩ Q:=by
 refine RS.i G hA fun hR hh G'=>?_;refine J.frz (a:=Dc) (c:=.list (ξ.map nat)) (B2:=⟨fzL R a D s.push (some (.str word)) st be ma rs cl (some (.bool true)) (some (.list (ξ.map nat))) su w cs sg le ot,fzC R s.ω (bkS R s.φ) (tkS s.φ) u,[],m⟩) ⟨rfl,⟨_,Cut.last _,.rest⟩,?_,FzE.refl _,rfl⟩ ?_
 ·exact .same (.same (.same (.same (.same (.same (.same (.same (.same (.same (.same (.same (.same (.same (.same (.same (.same (.same (.cons .at (FzE.refl _)))))))))))))))))))
 refine ES.ret ?_;walk_at"vss";exact h
theorem sp_170(G:G3 X)(hA:Rm X.A (k + 7))(hok:Ux X.w.params a){i:Int}{t:List Nat}{pre post:List (Addr × Cell)}(hm:B.mem=pre++Zp (qL X.w.params) a i t []++post)(hs:t.length ≤ sizeLine)(hR0:RunOk R)
  (hsy:∀ w ∈ R.ar,∃ s,vat R.ay (R.ss.map V.int) w=some (.int s) /\ s ≠ 0) (hend:vat R.ay (R.ss.map V.int) (tx (Zf t).1)=none)
  (hgk:∀ u,u < R.n->(R.gr.getD u ([],[])).1=(R.preds u).map fun v=>R.ar.getD v "") (hfin:(R.run 130).push.length < 130) (hF:Sk R (R.run 130))
  (h:P (.tup [.list ((R.run 130).ω.map tv),.list (((List.range R.n).map (R.pick (R.run 130).ω)).map nat),.bool true,.str (tx (Zf t).1)]) {B with mem:=pre++Zp (qL X.w.params) a (i + nl t - nl (Zf t).2) (Zf t).2 []++post}):
  CALL X (.ref 170) [nat R.who,.ref a.L,.list (R.ar.map V.str),.sdict R.ay (R.ss.map V.int),.list (R.kds.map V.int),.list (R.ψ.map nat),.list (R.ax.map nt2),.sdict R.ar (R.gr.map dV)] B P:=by
 refine CALLR.call (CALLR.defG (ps:=["who", "lexer", "words", "symbols", "kinds", "lines", "leads", "graph"]) (loc:=ruL R a.L) (cel:=ruC R) (sub:=B.mem) (rest:=[]) G hA (Jx _) (o169 _) (Xu _) (F1 _) ?_ rfl ⟨rfl,rfl,rfl,rfl,trivial⟩ ⟨rfl,rfl,rfl,rfl,trivial⟩ (append_nil _).symm ?_)
 ·refine lenC fun _=>lenC fun _=>lenC fun _=>lenC fun _=>lenC fun _=>lenC fun _=>lenC fun _=>lenC fun _=>Xb ?_;kernel_rfl
 intro L hR hh G';refine EX.drop ?_;rw[hm];refine RW.out (X:=X.callee (Xu X.w.params).1 L 170) (RW.step 0 (by decide) (Hg G hA hR0 ?_));refine RW.step 1 (by decide) (Hf G hA hR0 ?_);refine RW.step 2 (by decide) (He G hA hR0 fun rs hrs=>?_);refine RW.step 3 (by decide) (Hd G hA hR0 fun xr dr Dm Dt Dp=>?_);refine RW.step 4 (by decide) (Hc G hA hR0 fun bs ks hbs hks=>?_);rw[M8];refine RW.step 5 (by decide) (Hb (k:=k) G hA hR0 fun wo=>?_);rw[Q0];refine RW.step 6 (by decide) (Ha (k:=k) (D:=⟨rs,xr,dr,Dm,Dt,Dp,bs,ks⟩) G hA hok hR0 ⟨hrs,hbs,hks⟩ hs hsy hend hgk hfin fun st be ma ri cl u=>?_);unfold N0;rw[<- append_assoc _ post];refine RW.frz (by unfold bkS;rw[length_map];exact hbs.trans (SOkR.run hR0 130).lh.symm) (by unfold tkS;rw[length_map];exact hks.trans (SOkR.run hR0 130).lh.symm) ?_;refine RW.step 7 (by decide) (H9 (k:=k) G hA hR0 fun Dc=>?_);refine RW.step 8 (by decide) (H8 (k:=k) G hA hR0 ⟨hrs,hbs,hks⟩ hF fun su w cs sg le ot u=>?_);refine RW.step 9 (by decide) (H7 (k:=k) G hA ?_);refine⟨_,List.sublist_append_left _ _,?_⟩;show P _ {B with mem:=_++[]};rw[append_nil];exact h
end
end
section
noncomputable def ownL:List Int:=[4,6969,1116,12015,2116,20301,2717780]
noncomputable def Vz{α:Type}(l:List α)(lo hi st:Option Int):List α:=(sliceRange (sliceBounds lo hi st l.length).1 (sliceBounds lo hi st l.length).2.1 (sliceBounds lo hi st l.length).2.2).filterMap (l[·]?)
theorem R3{α:Type}(f:α->V)(l:List α)(lo hi st:Option Int):X3 (l.map f) lo hi st=(Vz l lo hi st).map f:=by
 delta X3 Vz
 rw[length_map,List.map_filterMap];congr 1
 funext j
 rw[getElem?_map]
theorem N4(a b c:Int)(hc:0 < c)(ha:0 ≤ a):(sliceRange a b c).length ≤ (b + (c - 1)).toNat:=by
 delta sliceRange
 rw[length_map,length_range,if_pos hc];split
 ·refine Int.toNat_le_toNat (Int.ediv_le_of_le_mul hc ?_)
  haveI h1:b - a + c - 1 ≤ b + (c - 1):=by rw[Int.add_sub_assoc];exact Int.add_le_add_right (Int.sub_le_self b ha) _
  exact Int.le_trans h1 (by haveI:=Int.mul_le_mul_of_nonneg_left (a:=1) (b:=c) (c:=b + (c - 1)) hc (by exact Int.add_nonneg (Int.le_trans ha (Int.le_of_lt (by assumption))) (Int.sub_nonneg_of_le hc));rwa [Int.mul_one] at this)
 ·exact zero_le _
theorem R4{α:Type}(l:List α)(a b c:Int)(lo hi st:Option Int)(e:sliceBounds lo hi st l.length=(a,b,c))(hc:0 < c)(ha:0 ≤ a):(Vz l lo hi st).length ≤ (b + (c - 1)).toNat:=by
 delta Vz
 rw[e];exact le_trans (List.length_filterMap_le ..) (N4 a b c hc ha)
theorem Mb{α:Type}(l:List α):(Vz l none (some 60) none).length ≤ l.length:=by
 refine le_trans (R4 l 0 (max 0 (min 60 l.length)) 1 _ _ _ rfl (by decide) (Int.le_refl 0)) ?_;generalize l.length=n;exact Int.toNat_le.mpr (by rw[show(1 - 1:Int)=0 from rfl,add_zero];exact Int.max_le.mpr ⟨natCast_nonneg n,Int.min_le_right ..⟩)
theorem Hk{α:Type}(l:List α)(i:Nat):(Vz l (some (i:Int)) none (some 7)).length ≤ l.length + 6:=by
 refine le_trans (R4 l (max 0 (min (if (i:Int) < 0 then (i:Int) + l.length else i) l.length)) l.length 7 _ _ _ rfl (by decide) (Int.le_max_left ..)) ?_;generalize l.length=n;exact lt_succ_self _
noncomputable def Pu(xs:List Int)(i:Nat):List Int:=Vz (Vz xs none (some 60) none) (some i) none (some 7)
noncomputable def L9(xs:List Int)(i:Nat):Int:=ownL.getD i 0 + ((Pu xs i).map (·.fmod 1000000)).sum
noncomputable def Os(xs:List Int)(i:Nat):Nat:=(L9 xs i).toNat
noncomputable def Us(xs:List Int):List Nat:=(List.range 7).map (Os xs)
theorem Q4:∀ l:List Int,0 ≤ (l.map (·.fmod 1000000)).sum /\ (l.map (·.fmod 1000000)).sum ≤ 1000000 * l.length
 | []=>by decide
 | x::l=>by
  haveI h:=Q4 l
  haveI h1:=Int.fmod_nonneg_of_pos x (show(0:Int) < 1000000 by decide)
  haveI h2:=Int.fmod_lt_of_pos x (show(0:Int) < 1000000 by decide)
  simp only[map_cons,sum_cons,length_cons];exact⟨Int.add_nonneg h1 h.1,Int.le_trans (Int.add_le_add (Int.le_of_lt h2) h.2) (Int.le_of_eq ((add_comm ..).trans (Int.mul_add 1000000 l.length 1).symm))⟩
theorem Oo{xs:List Int}(h:xs.length ≤ 63)(i:Nat):(Pu xs i).length ≤ 77:=by
 haveI h1:=Mb xs
 haveI h2:=Hk (Vz xs none (some 60) none) i
 delta Pu;exact(le_trans (le_trans (le_trans h2 (add_le_add_right h1 _)) (add_le_add_right h _)) (by decide))
theorem Lx:∀ i < 7,4 ≤ ownL.getD i 0 /\ ownL.getD i 0 ≤ 2717780:=by decide
theorem I9{a b:Int}{c:Nat}(h1:0 ≤ b /\ b ≤ 1000000 * c)(h2:c ≤ 77)(h3:4 ≤ a /\ a ≤ 2717780):a + b=((a + b).toNat:Int) /\ (a + b).toNat ≤ 10 ^ 9:=by exact⟨(Int.toNat_of_nonneg (Int.add_nonneg (Int.le_trans (by decide) h3.1) h1.1)).symm,Int.toNat_le.mpr (Int.le_trans (Int.add_le_add h3.2 (Int.le_trans h1.2 (Int.mul_le_mul_of_nonneg_left (ofNat_le.mpr h2) (by decide)))) (by decide))⟩
theorem Rc{xs:List Int}(h:xs.length ≤ 63){i:Nat}(hi:i < 7):L9 xs i=(Os xs i:Int) /\ Os xs i ≤ 10 ^ 9:=I9 (Q4 (Pu xs i)) (Oo h i) (Lx i hi)
noncomputable def Ht(i:Nat):Stmt:=lawB.getD i (.Pass ⟨0,0,0,0⟩)
theorem Mn:lawB.length=15:=by kernel_rfl
noncomputable abbrev lwL(c r t g k kp wh pi ri wo:Option V:=none):List (Str × Option V):=[("cells",c),("rows",r),("text",t),("graph",g),("kinds",k),("kept",kp),("who",wh),("picks",pi),("right",ri),("word",wo)]
noncomputable abbrev lwC(sc ow pl wo nu li le si lx ra fe ed sy ma:Option V:=none):List (Str × Option V):=[("script",sc),("own",ow),("places",pl),("words",wo),("numbers",nu),("lines",li),("leads",le),("size",si),("lexer",lx),("ranks",ra),("few",fe),("edge",ed),("symbols",sy),("marks",ma)]
noncomputable abbrev Yr(l:List Str):V:=.list (l.map V.str)
noncomputable abbrev Zs(l:List Int):V:=.list (l.map V.int)
noncomputable abbrev Y1(l:List Nat):V:=.list (l.map nat)
noncomputable abbrev T9(l:List (Nat × Nat)):V:=.list (l.map nt2)
abbrev PlR:=Str × Int × Nat × Nat × Nat
noncomputable def plW(ps:List PlR):List Str:=ps.map (·.1)
noncomputable def plN(ps:List PlR):List Int:=ps.map (·.2.1)
noncomputable def plL(ps:List PlR):List Nat:=ps.map (·.2.2.1)
noncomputable def plD(ps:List PlR):List (Nat × Nat):=ps.map (·.2.2.2)
noncomputable def Sf(k:Nat)(p:PlR):V:=[V.str p.1,.int p.2.1,nat p.2.2.1,nt2 p.2.2.2].getD k .none
theorem Iz{k:Nat}(h:k < 4)(p:PlR):[V.str p.1,.int p.2.1,nat p.2.2.1,nt2 p.2.2.2][k]?=some (Sf k p):=Z8 _ h
noncomputable def Lu(ar:List Str)(ax:List (Nat × Nat))(u:Nat):List Nat:=[u,(ax.getD u (0,0)).1,(ax.getD u (0,0)).2]
noncomputable def T4(ar:List Str)(ax:List (Nat × Nat)):List Str:=(List.range ar.length).flatMap fun u=>(Lu ar ax u).map fun w=>ar.getD w ""
noncomputable def Ow(rows:List Str)(c:Nat):Str:=StrLaws.sliceText (Tn (rows++[Str.ofString "#"]) c) none (some (-1))
structure BOk(ar:List Str)(aq:List Int)(ψ:List Nat)(ax:List (Nat × Nat)):Prop where
 n:4 ≤ ar.length /\ ar.length ≤ 5
 nl:aq.length=ar.length
 ll:ψ.length=ar.length
 dl:ax.length=ar.length
 nd:ar.Nodup
 ne:Str.ofString "" ∉ ar
 nh:Str.ofString "#" ∉ ar
 num:∀ x ∈ aq,7 ≤ x /\ x ≤ 54
 short:∀ w ∈ ar,w.length ≤ 5
 l4:∀ l ∈ ψ,l < 4
 lt:∀ p ∈ ax,p.1 < ar.length /\ p.2 < ar.length
theorem Qa{ar:List Str}{ax:List (Nat × Nat)}:(T4 ar ax).length=3 * ar.length:=by
 haveI:∀ l:List Nat,(l.flatMap fun u=>(Lu ar ax u).map fun w=>ar.getD w "").length=3 * l.length:=fun l=>by
  induction l with
  | nil=>rfl
  | cons a l ih=>rw[flatMap_cons,length_append,ih,length_cons];show 3 + 3 * l.length=_;rw[Nat.mul_succ,Nat.add_comm]
 delta T4;rw[this,length_range]
section
variable{X:Cx}{B:St}{k:Nat}{P:V->St->Prop}
structure LS(X:Cx)(i:Nat)(B:St)(Q:Fl->St->Prop):Prop where
 out:ES X (Ht i) B Q
structure LW(X:Cx)(i:Nat)(B:St)(Q:Fl->St->Prop):Prop where
 out:EX X (lawB.drop i) B Q
noncomputable def Hn(X:Cx)(i:Nat)(Q:Fl->St->Prop)(f:Fl)(B:St):Prop:=match f with
 | .next=>LW X (i + 1) B Q
 | f=>Q f B
theorem LW.step{Q:Fl->St->Prop}(i:Nat)(hi:i < 15)(h:LS X i B (Hn X i Q)):LW X i B Q:=by
 refine⟨?_⟩;rw[Un (.Pass ⟨0,0,0,0⟩) lawB i (by rw[Mn];exact hi)];refine EX.cons (J.mono h.out fun f B1 hq=>?_);cases f with
 | next=>exact LW.out hq
 | _=>exact hq
variable{pm cd doc dV kV:Value}{L fa:Addr}{m:List (Addr × Cell)}{Q:Fl->St->Prop}{c1 c2 c3 c4 c5 c6 c7 c8 c9 l1 l2 l3 l4 l5 l6 l7 l8 l9:Option V}
theorem LS.i(G:G3 X)(hA:Rm X.A (k + 9)){i:Nat}{B:St}(h:Rm (X.callee (Y4 pm cd doc dV kV) L fa).A (k + 8)->(X.callee (Y4 pm cd doc dV kV) L fa).A.handled=none->G3 (X.callee (Y4 pm cd doc dV kV) L fa)->ES (X.callee (Y4 pm cd doc dV kV) L fa) (Ht i) B Q):LS (X.callee (Y4 pm cd doc dV kV) L fa) i B Q:=⟨h hA.deeper hA.deeper.handled G.callee⟩
theorem law_0(G:G3 X)(hA:Rm X.A (k + 9)){xs:List Int}(h:Q .next ⟨lwL,lwC (some (Zs xs)) (some (Zs ownL)),[],m⟩):LS (X.callee (Y4 pm cd doc dV kV) L fa) 0 ⟨lwL,lwC (some (Zs xs)),[],m⟩ Q:=by
 refine LS.i G hA fun hR hh G'=>?_;walk_at"vag";refine EV.list ?_;walk_at"vss";exact h
theorem law_1(G:G3 X)(hA:Rm X.A (k + 9)){xs:List Int}(hlen:xs.length ≤ 63)(h:Q .next ⟨lwL (some (Y1 (Us xs))),lwC (some (Zs xs)) (some (Zs ownL)),[],m⟩):LS (X.callee (Y4 pm cd doc dV kV) L fa) 1 ⟨lwL,lwC (some (Zs xs)) (some (Zs ownL)),[],m⟩ Q:=by
 refine LS.i G hA fun hR hh G'=>?_;refine ES.asgLC ?_ (by walk_at"vside") (by walk_at"vside");refine CVG.lcm (α:=Nat) ?_ (by kernel_rfl) (by kernel_rfl) rfl (by intro _;rfl);refine EV.rangeC (by walk_at"vg") ?_;walk_at"vs";refine CALL.range ?_;refine⟨_,_,_,List.range 7,nat,nat ∘ Os xs,ITERC.rngN hh (by decide),by walk_at"vsc",by decide,?_,?_⟩
 ·intro C D c i hi
  haveI hi7:i < 7:=by simpa using hi
  walk_at"vs";refine SUB.li i 0 rfl hi7 (by decide) ?_;refine EV.callB (by walk_at"vg") "sum" (by walk_at"vbn") ?_;walk_at"v";refine EV.lcm (α:=Int) ?_ (by kernel_rfl) (by kernel_rfl) rfl (by intro _;rfl);walk_at"vs";refine⟨_,rfl,?_⟩;walk_at"vs";refine SUB.sliceL (by rw[length_map];exact(le_trans hlen (by decide))) (by decide) ?_;rw[R3];walk_at"vs";refine⟨_,rfl,?_⟩;walk_at"vs";refine⟨_,rfl,?_⟩;walk_at"vs"
  haveI hc1:=Mb xs
  refine SUB.sliceL (by rw[length_map];exact(le_trans (le_trans hc1 hlen) (by decide))) (by decide) ?_;rw[R3]
  haveI hc2:=Oo hlen i
  refine⟨_,_,_,Pu xs i,V.int,fun x=>V.int (x.fmod 1000000),ITERC.list hh,by walk_at"vsc",by exact(le_trans hc2 (by decide)),?_,?_⟩
  ·intro C2 D2 c2 x hx;walk_at"vs";refine BIN.mod ?_ (by decide);exact⟨rfl,by walk_at"vback"⟩
  rw[show(Pu xs i).map (fun x=>V.int (x.fmod 1000000))=((Pu xs i).map (·.fmod 1000000)).map V.int by rw[map_map];rfl];walk_at"vs";refine CALL.sum hh (by rw[length_map];exact(le_trans hc2 (by decide))) (fun y hy=>?_) ?_
  ·obtain⟨x,_,rfl⟩:=mem_map.mp hy
   haveI h1:=Int.fmod_nonneg_of_pos x (show(0:Int) < 1000000 by decide)
   haveI h2:=Int.fmod_lt_of_pos x (show(0:Int) < 1000000 by decide)
   exact⟨(Int.le_trans (by decide) h1),(Int.le_of_lt (Int.lt_of_lt_of_le h2 (by decide)))⟩
  walk_at"vs";exact⟨by show V.int (L9 xs i)=_;rw[(Rc hlen hi7).1];rfl,by walk_at"vback"⟩
 rw[<- map_map];walk_at"vs";exact h
theorem law_2(G:G3 X)(hA:Rm X.A (k + 9)){cells:List Nat}(hc:cells.length=7)(h:Q .next ⟨lwL (some (Y1 cells)),lwC c1 c2 (some (.list ((plF cells (Zh cells)).ps.map plV))),[],m⟩):LS (X.callee (Y4 pm cd doc dV kV) L fa) 2 ⟨lwL (some (Y1 cells)),lwC c1 c2,[],m⟩ Q:=by
 refine LS.i G hA fun hR hh G'=>?_;walk_at"vag";refine EV.callG (by walk_at"vg") 148 (by walk_at"vgn") (I0 _) (Ip _) ?_;walk_at"vs";refine sp_148 (k:=k + 7) G' hR hc ?_;walk_at"vs";exact h
theorem law_3(G:G3 X)(hA:Rm X.A (k + 9)){ps:List PlR}(hp:ps.length ≤ 10)(h:Q .next ⟨lwL l1,lwC c1 c2 (some (.list (ps.map plV))) (some (Yr (plW ps))) (some (Zs (plN ps))) (some (Y1 (plL ps))) (some (T9 (plD ps))),[],m⟩):LS (X.callee (Y4 pm cd doc dV kV) L fa) 3 ⟨lwL l1,lwC c1 c2 (some (.list (ps.map plV))),[],m⟩ Q:=by
 refine LS.i G hA fun hR hh G'=>?_;walk_at"vag";refine EV.lcm (α:=Nat) ?_ (by kernel_rfl) (by kernel_rfl) rfl (by intro _;rfl);refine EV.rangeC (by walk_at"vg") ?_;walk_at"vs";refine CALL.range ?_;refine⟨_,_,_,List.range 4,nat,fun k=>.list (ps.map (Sf k)),ITERC.rngN hh (by decide),by walk_at"vsc",by decide,?_,?_⟩
 ·intro C D c x hx
  haveI hx4:x < 4:=mem_range.mp hx
  walk_at"vs";refine EV.lcm (α:=PlR) ?_ (by kernel_rfl) (by kernel_rfl) rfl (by intro _;rfl);walk_at"vs";refine⟨_,_,_,ps,plV,Sf x,ITERC.list hh,by walk_at"vsc",le_trans hp (by decide),?_,?_⟩
  ·intro C2 D2 c2 p hp;walk_at"vs";refine SUB.ti x rfl (Iz hx4 p) (le_of_ble_eq_true rfl) ?_;exact⟨rfl,by walk_at"vback"⟩
  exact⟨rfl,by walk_at"vback"⟩
 refine AS.list hh ?_ (by walk_at"vside") (by intro _;walk_at"vside") (by intro _;walk_at"vside")
 haveI e0:ps.map (Sf 0)=(plW ps).map V.str:=by delta plW;rw[map_map];rfl
 haveI e1:ps.map (Sf 1)=(plN ps).map V.int:=by delta plN;rw[map_map];rfl
 haveI e2:ps.map (Sf 2)=(plL ps).map nat:=by delta plL;rw[map_map];rfl
 haveI e3:ps.map (Sf 3)=(plD ps).map nt2:=by delta plD;rw[map_map];rfl
 show ASs _ _ [V.list (ps.map (Sf 0)),V.list (ps.map (Sf 1)),V.list (ps.map (Sf 2)),V.list (ps.map (Sf 3))] _ _;rw[e0,e1,e2,e3];walk_at"vs";exact h
theorem law_4(G:G3 X)(hA:Rm X.A (k + 9)){ar:List Str}{aq:List Int}{ψ:List Nat}{ax:List (Nat × Nat)}(hb:BOk ar aq ψ ax)(h:Q .next ⟨lwL l1 (some (Yr (T4 ar ax))),lwC c1 c2 c3 (some (Yr ar)) c5 c6 (some (T9 ax)) (some (nat ar.length)),[],m⟩):LS (X.callee (Y4 pm cd doc dV kV) L fa) 4 ⟨lwL l1,lwC c1 c2 c3 (some (Yr ar)) c5 c6 (some (T9 ax)),[],m⟩ Q:=by
 refine LS.i G hA fun hR hh G'=>?_
 haveI hn5:=hb.n.2
 haveI hns:ar.length ≤ sizeLine:=le_trans hn5 (by decide)
 haveI hds:ax.length ≤ sizeLine:=hb.dl ▸ hns
 walk_at"vag";walk_at"v";walk_at"v";refine EV.lenC (by walk_at"vg") ?_;walk_at"vs";refine CALL.lenL (by rw[length_map];exact hns) ?_;rw[length_map];walk_at"v"
 haveI hfe:((List.range ar.length).flatMap fun(u:Nat)=>(Lu ar ax u).map fun w=>V.str (ar.getD w ""))=(T4 ar ax).map V.str:=by
  delta T4;rw[List.map_flatMap];congr 1
 refine EV.lc2 (α:=Nat) (β:=Nat) ?_ (by kernel_rfl) (by kernel_rfl) rfl (by intro _;rfl);refine EV.rangeC (by walk_at"vg") ?_;walk_at"vs";refine EV.lenC (by walk_at"vg") ?_;walk_at"vs";refine CALL.lenL (by rw[length_map];exact hns) ?_;rw[length_map];walk_at"vs";refine CALL.range ?_;refine⟨_,[],_,List.range ar.length,nat,Lu ar ax,nat,fun _ w=>.str (ar.getD w ""),ITERC.rngN hh (le_trans hn5 (by decide)),by walk_at"vsc",by rw[hfe,length_map,Qa];exact le_trans (mul_le_mul_left 3 hn5) (by decide),?_,?_⟩
 ·intro C D c u hu
  haveI hul:=mem_range.mp hu
  haveI hpl:=hb.lt _ (mem_of_getElem? (Zi (0,0) (hb.dl.symm ▸ hul)))
  walk_at"vs";refine⟨by walk_at"vback",?_,?_⟩
  ·walk_at"vs";refine SUB.li u (0,0) rfl (hb.dl.symm ▸ hul) hds ?_;walk_at"vs";refine SUB.ti 0 (d:=nat (ax.getD u (0,0)).1) rfl rfl (le_of_ble_eq_true rfl) ?_;walk_at"vs";refine SUB.li u (0,0) rfl (hb.dl.symm ▸ hul) hds ?_;walk_at"vs";refine SUB.ti 1 (d:=nat (ax.getD u (0,0)).2) rfl rfl (le_of_ble_eq_true rfl) ?_;walk_at"vss";exact⟨ITERC.tup (l:=[nat u,nat (ax.getD u (0,0)).1,nat (ax.getD u (0,0)).2]) hh,Back.refl _⟩
  ·intro w hw c'
   haveI hwl:w < ar.length:=by
    rcases mem_cons.mp hw with rfl | hw
    ·exact hul
    rcases mem_cons.mp hw with rfl | hw
    ·exact hpl.1
    ·rw[mem_singleton] at hw;subst hw;exact hpl.2
   walk_at"vs";refine SUB.li w "" rfl hwl hns ?_;exact⟨rfl,by walk_at"vback"⟩
 rw[hfe];walk_at"vss";exact h
theorem law_5(G:G3 X)(hA:Rm X.A (k + 9)){cells:List Nat}{rows:List Str}(hr:rows.length ≤ 15)(hs:∀ w ∈ rows,w.length ≤ 5)(hc:cells.length=7)(hc6:cells.getD 6 0 ≤ 10 ^ 12)(h:Q .next ⟨lwL (some (Y1 cells)) (some (Yr rows)) (some (.str (Ow rows (cells.getD 6 0)))),lwC c1 c2 c3 c4 c5 c6 c7 c8,[],m⟩):LS (X.callee (Y4 pm cd doc dV kV) L fa) 5 ⟨lwL (some (Y1 cells)) (some (Yr rows)),lwC c1 c2 c3 c4 c5 c6 c7 c8,[],m⟩ Q:=by
 refine LS.i G hA fun hR hh G'=>?_;walk_at"vag";refine EV.callG (by walk_at"vg") 134 (by walk_at"vgn") (I2 _) (Kn _) ?_;walk_at"vs";refine EV.list ?_;walk_at"vss";refine BIN.addL ?_ (by rw[length_map];exact Wf (add_le_add_right hr 1));rw[show rows.map V.str++[V.str "#"]=(rows++[Str.ofString "#"]).map V.str by rw[map_append];rfl];walk_at"vs";refine SUB.li 6 0 rfl (by exact(lt_of_lt_of_le (by decide) (le_of_eq hc.symm))) (by exact(le_trans (le_of_eq hc) (by decide))) ?_;walk_at"vs";refine sp_134 (k:=k + 7) G' hR (by rw[length_append];exact le_trans (add_le_add_right hr 1) (by decide)) ?_ hc6 ?_
 ·intro w hw;rcases mem_append.mp hw with hw | hw
  ·exact le_trans (hs w hw) (by decide)
  ·rw[mem_singleton] at hw;subst hw;decide
 walk_at"vss";exact h
end
end
section
noncomputable def Xl(cells:List Nat)(n:Nat):Nat:=cells.getD 0 0 / 2 % (n + 1)
noncomputable def Ra(cells:List Nat)(n:Nat)(rk:List Int):Int:=if Xl cells n=n \/ (0 < Xl cells n /\ cells.getD 0 0 / 12 % 2=1) then rk.getD (Xl cells n - 1) 0 + 1 else rk.getD (Xl cells n) 0
noncomputable def Y5(aq:List Int)(e:Int):List Int:=aq.map fun x=>x + 256 - e
noncomputable def kdF(i:Int):Int:=if i == 0 then 0 else if i < 256 then 1 else 2
noncomputable def Sp(aq:List Int)(e:Int):List Int:=(Y5 aq e).map kdF
theorem eqN(a b:Nat):(((a:Nat):Int) == (b:Int))=decide (a=b):=by rw[Bool.eq_iff_iff,beq_iff_eq,decide_eq_true_eq];exact ofNat_inj
theorem ltN(a b:Nat):decide (((a:Nat):Int) < (b:Int))=decide (a < b):=by rw[Bool.eq_iff_iff,decide_eq_true_eq,decide_eq_true_eq];simp
theorem Wl{α:Type}(d:α){l l':List α}(hl:l.length=l'.length)(h:∀ i,i < l.length->l.getD i d=l'.getD i d):l=l':=by
 refine List.ext_getElem hl fun i h1 h2=>?_
 haveI:=h i h1
 rwa [getD_eq_getElem?_getD,getElem?_eq_getElem h1,getD_eq_getElem?_getD,getElem?_eq_getElem h2] at this
theorem Ll{ar:List Str}{aq:List Int}{e:Int}(hn:ar.Nodup)(hl:aq.length=ar.length):Z9 (((List.range ar.length).filter fun _=>true).map fun u=>(ar.getD u "",V.int (aq.getD u 0 + 256 - e))) ([],[])=(ar,(Y5 aq e).map V.int):=by
 rw[filter_eq_self.mpr (fun _ _=>rfl)]
 haveI hsl:(Y5 aq e).length=ar.length:=by unfold Y5;rw[length_map,hl]
 haveI e1:((List.range ar.length).map fun u=>(ar.getD u "",V.int (aq.getD u 0 + 256 - e)))=ar.zip ((Y5 aq e).map V.int):=by
  refine ext_getElem? fun i=>?_;rw[getElem?_map]
  by_cases h:i < ar.length
  ·rw[getElem?_range h];symm;refine getElem?_zip_eq_some.mpr ⟨Z8 (Str.ofString "") h,?_⟩;unfold Y5;rw[map_map,getElem?_map,Z8 (0:Int) (show i < aq.length by exact(lt_of_lt_of_le h (le_of_eq hl.symm)))];rfl
  ·rw[getElem?_eq_none (by rw[length_range];exact(le_of_not_lt h)),getElem?_eq_none (by rw[length_zip];exact(le_trans (min_le_left ..) (le_of_not_lt h)))];rfl
 rw[e1,Ym ar _ [] [] (by rw[length_map,hsl]) (by exact hn)];rfl
theorem Zq{α:Type}{f:Nat->α}{d:α}{n v:Nat}(h:v < n):((List.range n).map f).getD v d=f v:=by rw[getD_eq_getElem?_getD,getElem?_map,getElem?_range h];rfl
section
variable{X:Cx}{B:St}{k:Nat}{P:V->St->Prop}
variable{pm cd doc dV kV:Value}{L fa:Addr}{m:List (Addr × Cell)}{Q:Fl->St->Prop}{c1 c2 c3 c4 c5 c6 c7 c8 c9 d1 d2 d3 l1 l2 l3 l4 l5 l6 l7 l8 l9:Option V}
theorem law_6(G:G3 X)(hA:Rm X.A (k + 9))(hL:LamOk X){cells:List Nat}{aq:List Int}{n:Nat}{text:Str}{rest:List (Addr × Cell)}(hc:cells.length=7)(hnl:aq.length < 64)(hs:text.length ≤ sizeLine)(h:∀ a tb rk,Ux X.w.params a->rk.Perm aq->rk.Pairwise (· ≤ ·)->Q .next ⟨lwL (some (Y1 cells)) l2 (some (.str text)),lwC c1 c2 c3 c4 (some (Zs aq)) c6 c7 (some (nat n)) (some (.ref a.L)) (some (Zs rk)) (some (nat (Xl cells n))),[],[(136,Cell.raw (·=tabObj tb))]++Zp (qL X.w.params) a 1 text.cps.toList []++rest⟩):LS (X.callee (Y4 pm cd doc dV kV) L fa) 6 ⟨lwL (some (Y1 cells)) l2 (some (.str text)),lwC c1 c2 c3 c4 (some (Zs aq)) c6 c7 (some (nat n)),[],[(136,Cell.raw (·=tabObj #[]))]++rest⟩ Q:=by
 refine LS.i G hA fun hR hh G'=>?_;walk_at"vag";walk_at"v";walk_at"v";refine EV.callG (by walk_at"vg") 141 (by walk_at"vgn") (I1 _) (Rt _) ?_;walk_at"vs";refine sp_141 (k:=k + 5) (rest:=rest) G' hL.callee hR rfl hs (fun a tb ha=>?_);walk_at"v";refine EV.callB (by walk_at"vg") "sorted" (by walk_at"vbn") ?_;walk_at"vs";refine CALL.sorted hnl (fun rk h1 h2=>?_);walk_at"vs";refine SUB.li 0 0 rfl (by exact(lt_of_lt_of_le (by decide) (le_of_eq hc.symm))) (by exact(le_trans (le_of_eq hc) (by decide))) ?_;walk_at"vs";refine BIN.divN 2 ?_ (by decide);walk_at"vs";rw[show((n:Nat):Int) + 1=((n + 1:Nat):Int) by rfl];refine BIN.modN (n + 1) ?_ (by exact Nat.succ_ne_zero _);walk_at"vss";exact h a tb rk ha h1 h2
theorem law_7(G:G3 X)(hA:Rm X.A (k + 9)){cells:List Nat}{n:Nat}{rk:List Int}(hc:cells.length=7)(hn:0 < n /\ n ≤ 6)(hrk:rk.length=n)(h:Q .next ⟨lwL (some (Y1 cells)) l2 l3,lwC c1 c2 c3 c4 c5 c6 c7 (some (nat n)) c9 (some (Zs rk)) (some (nat (Xl cells n))) (some (.int (Ra cells n rk))),[],m⟩):LS (X.callee (Y4 pm cd doc dV kV) L fa) 7 ⟨lwL (some (Y1 cells)) l2 l3,lwC c1 c2 c3 c4 c5 c6 c7 (some (nat n)) c9 (some (Zs rk)) (some (nat (Xl cells n))),[],m⟩ Q:=by
 refine LS.i G hA fun hR hh G'=>?_
 haveI hf:Xl cells n < n + 1:=mod_lt _ (succ_pos _)
 haveI one:(Xl cells n=n \/ (0 < Xl cells n /\ cells.getD 0 0 / 12 % 2=1))->Q .next ⟨lwL (some (Y1 cells)) l2 l3,lwC c1 c2 c3 c4 c5 c6 c7 (some (nat n)) c9 (some (Zs rk)) (some (nat (Xl cells n))) (some (.int (rk.getD (Xl cells n - 1) 0 + 1))),[],m⟩:=fun q=>by
  unfold Ra at h;rwa [if_pos q] at h
 haveI two:¬ (Xl cells n=n \/ (0 < Xl cells n /\ cells.getD 0 0 / 12 % 2=1))->Q .next ⟨lwL (some (Y1 cells)) l2 l3,lwC c1 c2 c3 c4 c5 c6 c7 (some (nat n)) c9 (some (Zs rk)) (some (nat (Xl cells n))) (some (.int (rk.getD (Xl cells n) 0))),[],m⟩:=fun q=>by
  unfold Ra at h;rwa [if_neg q] at h
 generalize Xl cells n=f at *;walk_at"vag";walk_at"vs";rw[eqN]
 by_cases h1:f=n
 ·rw[if_pos (decide_eq_true h1),if_pos rfl];walk_at"vs";refine SUB.li (f - 1) 0 (by exact Ut (Nat.lt_of_lt_of_eq hn.1 h1.symm)) (by rw[hrk];exact lt_of_lt_of_le (sub_lt (Nat.lt_of_lt_of_eq hn.1 h1.symm) one_pos) (le_of_eq h1)) (by exact(le_trans (le_trans (le_of_eq hrk) hn.2) (by decide))) ?_;walk_at"vs";exact one (.inl h1)
 ·refine(if_neg (by simpa using h1)).mpr ?_;walk_at"vs";rw[show decide ((0:Int) < ((f:Nat):Int))=decide (0 < f) from ltN 0 f]
  by_cases h2:0 < f
  ·refine(if_pos (decide_eq_true h2)).mpr ?_;walk_at"vs";refine SUB.li 0 0 rfl (by exact(lt_of_lt_of_le (by decide) (le_of_eq hc.symm))) (by exact(le_trans (le_of_eq hc) (by decide))) ?_;walk_at"vs";refine BIN.divN 12 ?_ (by decide);walk_at"vs";refine BIN.modN 2 ?_ (by decide);walk_at"vs";rw[show(((cells.getD 0 0 / 12 % 2:Nat):Int) == 1)=decide (cells.getD 0 0 / 12 % 2=1) from eqN _ 1]
   by_cases h3:cells.getD 0 0 / 12 % 2=1
   ·refine(if_pos (decide_eq_true h3)).mpr ?_;walk_at"vs";rw[if_pos rfl,if_pos rfl];walk_at"vs";refine SUB.li (f - 1) 0 (by exact Ut h2) (by rw[hrk];exact lt_of_lt_of_le (sub_lt h2 one_pos) (le_of_lt_succ hf)) (by exact(le_trans (le_trans (le_of_eq hrk) hn.2) (by decide))) ?_;walk_at"vs";exact one (.inr ⟨h2,h3⟩)
   ·refine(if_neg fun q=>h3 (of_decide_eq_true q)).mpr ?_;walk_at"vs";refine(if_neg (by decide)).mpr ?_;walk_at"vs";refine(if_neg (by decide)).mpr ?_;walk_at"vs";refine SUB.li f 0 rfl (by rw[hrk];exact Nat.lt_of_le_of_ne (le_of_lt_succ hf) h1) (by exact(le_trans (le_trans (le_of_eq hrk) hn.2) (by decide))) ?_;walk_at"vs";exact two fun q=>q.elim h1 fun q=>h3 q.2
  ·refine(if_neg (by simpa using h2)).mpr ?_;walk_at"vs";refine(if_neg (by decide)).mpr ?_;walk_at"vs";refine(if_neg (by decide)).mpr ?_;walk_at"vs";refine SUB.li f 0 rfl (by exact(lt_of_lt_of_le (lt_of_le_of_lt (le_of_not_lt h2) hn.1) (le_of_eq hrk.symm))) (by exact(le_trans (le_trans (le_of_eq hrk) hn.2) (by decide))) ?_;walk_at"vs";exact two fun q=>q.elim h1 fun q=>h2 q.1
theorem law_8(G:G3 X)(hA:Rm X.A (k + 9)){ar:List Str}{aq:List Int}{ψ:List Nat}{ax:List (Nat × Nat)}{e:Int}(hb:BOk ar aq ψ ax)(h:Q .next ⟨lwL l1 l2 l3,lwC c1 c2 c3 (some (Yr ar)) (some (Zs aq)) c6 c7 (some (nat ar.length)) c9 d1 d2 (some (.int e)) (some (.sdict ar ((Y5 aq e).map V.int))),[],m⟩):LS (X.callee (Y4 pm cd doc dV kV) L fa) 8 ⟨lwL l1 l2 l3,lwC c1 c2 c3 (some (Yr ar)) (some (Zs aq)) c6 c7 (some (nat ar.length)) c9 d1 d2 (some (.int e)),[],m⟩ Q:=by
 refine LS.i G hA fun hR hh G'=>?_
 haveI hn:=hb.n
 haveI hnl:=hb.nl
 walk_at"vag";refine EV.dcs (α:=Nat) ?_ (by kernel_rfl) (by kernel_rfl) rfl (by intro _;rfl);refine EV.rangeC (by walk_at"vg") ?_;walk_at"vs";refine CALL.range ?_;refine⟨_,_,_,List.range ar.length,nat,fun u=>(ar.getD u "",V.int (aq.getD u 0 + 256 - e)),fun _=>true,ITERC.rngN hh (by exact(le_trans hn.2 (by decide))),by walk_at"vsc",by rw[length_range];exact(le_trans hn.2 (by decide)),?_,?_⟩
 ·intro C D c u hu
  haveI hul:=mem_range.mp hu
  walk_at"vs";refine⟨rfl,?_⟩;refine(if_pos rfl).mpr ?_;walk_at"vs";refine SUB.li u "" rfl hul (by exact(le_trans hn.2 (by decide))) ?_;refine⟨rfl,?_⟩;walk_at"vs";refine SUB.li u 0 rfl (by exact(lt_of_lt_of_le hul (le_of_eq hnl.symm))) (by exact(le_trans (le_trans (le_of_eq hnl) hn.2) (by decide))) ?_;walk_at"vs";exact⟨rfl,by walk_at"vback"⟩
 rw[Ll hb.nd hnl];walk_at"vs";exact h
theorem law_9(G:G3 X)(hG:GenOk X)(hA:Rm X.A (k + 9)){ar:List Str}{aq:List Int}{ψ:List Nat}{ax:List (Nat × Nat)}{e:Int}(hb:BOk ar aq ψ ax){rest:List (Addr × Cell)}(hm:m.Perm (gtC::rest))(h:Q .next ⟨lwL l1 l2 l3 (some (.sdict ar ((Y9 ar ψ ax ar.length).map _root_.Mine.dV))) (some (Zs (Sp aq e))),lwC c1 c2 c3 (some (Yr ar)) c5 (some (Y1 ψ)) (some (T9 ax)) c8 c9 d1 d2 d3 (some (.sdict ar ((Y5 aq e).map V.int))),[],gtC::rest⟩):LS (X.callee (Y4 pm cd doc dV kV) L fa) 9 ⟨lwL l1 l2 l3,lwC c1 c2 c3 (some (Yr ar)) c5 (some (Y1 ψ)) (some (T9 ax)) c8 c9 d1 d2 d3 (some (.sdict ar ((Y5 aq e).map V.int))),[],m⟩ Q:=by
 refine LS.i G hA fun hR hh G'=>?_
 haveI hn5:=hb.n.2
 haveI hns:ar.length ≤ sizeLine:=le_trans hn5 (by decide)
 haveI hsl:(Y5 aq e).length=ar.length:=by unfold Y5;rw[length_map,hb.nl]
 refine ES.asgSw (names:=["graph", "kinds"]) hh ?_ (by walk_at"vside") (by walk_at"vside");walk_at"v";walk_at"v";refine EV.callG (by walk_at"vg") 158 (by walk_at"vgn") (Jz _) (Kl _) ?_;walk_at"vs";refine CALL.perm (m':=gtC::rest) hm.symm ?_;refine sp_158 (k:=k + 5) G' hG.callee hR hb.nd hn5 hb.ll hb.dl hb.lt rfl ?_;walk_at"v"
 haveI hwr:ar.map V.str=(List.range ar.length).map fun u=>V.str (ar.getD u ""):=by
  conv=>lhs;rw[show ar=(List.range ar.length).map fun u=>ar.getD u "" from Wl (Str.ofString "") (by rw[length_map,length_range]) fun i hi=>(Zq (f:=fun u=>ar.getD u "") hi).symm]
  rw[map_map];rfl
 refine EV.lcm (α:=Nat) ?_ (by kernel_rfl) (by kernel_rfl) rfl (by intro _;rfl);walk_at"vs";refine⟨_,[],_,List.range ar.length,fun u=>V.str (ar.getD u ""),fun u=>V.int (kdF ((Y5 aq e).getD u 0)),hwr ▸ ITERC.list hh,by walk_at"vsc",by rw[length_range];exact hns,?_,?_⟩
 ·intro C D c u hu
  haveI hul:=mem_range.mp hu
  walk_at"vs";refine EV.callG (by walk_at"vg") 153 (by walk_at"vgn") (Ly _) (Km _) ?_;walk_at"vs";refine SUB.sdict (d:=V.int ((Y5 aq e).getD u 0)) (by rw[Wu,Wv hb.nd hsl.symm _ 0 hul];rfl) ?_;walk_at"vs";refine sp_153 (k:=k + 6) (G3.comp G') hR ?_;exact⟨rfl,by walk_at"vback"⟩
 rw[show((List.range ar.length).map fun u=>V.int (kdF ((Y5 aq e).getD u 0)))=(Sp aq e).map V.int by
  unfold Sp
  conv=>rhs;rw[show Y5 aq e=(List.range ar.length).map fun u=>(Y5 aq e).getD u 0 from Wl 0 (by rw[length_map,length_range,hsl]) fun i hi=>(Zq (f:=fun u=>(Y5 aq e).getD u 0) (hsl ▸ hi)).symm]
  rw[map_map,map_map];rfl]
 walk_at"vss";refine⟨_,rfl,rfl,?_⟩;refine SNs.cons ?_;walk_at"v";refine SNs.cons ?_;walk_at"v";refine SNs.nil ?_;exact h
end
end
section
noncomputable def Y0(t:List Nat):Nat->List Nat
 | 0=>t
 | n + 1=>(Zf (Y0 t n)).2
noncomputable def Ox(t:List Nat)(n:Nat):Str:=tx (Zf (Y0 t n)).1
theorem Uj(t:List Nat):∀ n,(Y0 t n).length ≤ t.length
 | 0=>le_refl _
 | n + 1=>by
  haveI h1:=Uj t n
  haveI h2:=Vo (Y0 t n)
  show(Zf (Y0 t n)).2.length ≤ _;exact le_trans (le_trans (le_add_left ..) h2) h1
theorem V4{n:Nat}:∀ {l:List V},(∀ d ∈ l,veq n d d=some true)->veq (n + 1) (.list l) (.list l)=some true:=fun {l} h=>by
 haveI:Wr (zipWith (veq n) l l)=some true:=by
  induction l with
  | nil=>rfl
  | cons d l ih=>
   rw[zipWith_cons_cons];show(match veq n d d,Wr (zipWith (veq n) l l) with | some a,some b=>some (a && b) | _,_=>none)=_;rw[h d mem_cons_self,ih fun e he=>h e (mem_cons_of_mem _ he)];rfl
 show(if l.length == l.length then _ else _)=_;rw[beq_self_eq_true,if_pos rfl,this]
theorem V5(l:List Int):veq 2 (.list (l.map V.int)) (.list (l.map V.int))=some true:=V4 fun d hd=>by
 obtain⟨x,_,rfl⟩:=mem_map.mp hd;show some (x == x)=_;rw[beq_self_eq_true]
noncomputable def Q3(τ:List Int)(few:Nat)(x:Int):Int:=if x ∈ τ.take few then 1 else 2
theorem Kf(x:Int)(l:List Int):∀ d ∈ l.map V.int,veq 1 d (.int x)=some (isI x d):=fun d hd=>by obtain⟨v,_,rfl⟩:=mem_map.mp hd;rfl
theorem F4(x:Int)(l:List Int):(l.map V.int).any (isI x)=decide (x ∈ l):=by
 rw[List.any_map,Bool.eq_iff_iff,List.any_eq_true,decide_eq_true_eq];exact⟨fun⟨y,hy,e⟩=>(beq_iff_eq.mp (show(y == x)=true from e)) ▸ hy,fun h=>⟨x,h,beq_self_eq_true x⟩⟩
theorem ones(n:Nat):(replicate ((n:Int)).toNat [V.int 1]).flatten=(replicate n (1:Int)).map V.int:=by
 rw[toNat_natCast,map_replicate]
 induction n with
 | zero=>rfl
 | succ j ih=>rw[replicate_succ,replicate_succ,List.flatten_cons,ih];rfl
theorem Sm(l:List Str):veq 2 (.list (l.map V.str)) (.list (l.map V.str))=some true:=V4 fun d hd=>by
 obtain⟨x,_,rfl⟩:=mem_map.mp hd;show some (x == x)=_;rw[beq_self_eq_true]
section
variable{X:Cx}{B:St}{k:Nat}{P:V->St->Prop}
variable{pm cd doc dV kV:Value}{L fa:Addr}{m:List (Addr × Cell)}{Q:Fl->St->Prop}{c1 c2 c3 c4 c5 c6 c7 c8 c9 d1 d2 d3 d4 l1 l2 l3 l4 l5 l6 l7 l8 l9:Option V}{a:LxA}{pre post:List (Addr × Cell)}
theorem law_10(G:G3 X)(hA:Rm X.A (k + 9))(hok:Ux X.w.params a){n:Nat}(hn:4 ≤ n /\ n ≤ 5){kds τ aq:List Int}{few:Nat}(hnl:aq.length=n)(hkl:kds.length=n)(hrk:τ.length=n)(hfw:few ≤ n)(h1:∀ x ∈ aq,kdF x=1)(hkd:kds=aq.map (Q3 τ few)){rows:List Str}{t:List Nat}(hs:t.length ≤ sizeLine)(hrl:rows.length ≤ 15)(htok:(List.range rows.length).map (Ox t)=rows)
  (h:Q .next ⟨lwL l1 (some (Yr rows)) l3 l4 (some (Zs kds)),lwC c1 c2 c3 c4 (some (Zs aq)) c6 c7 (some (nat n)) (some (.ref a.L)) (some (Zs τ)) (some (nat few)) d3 d4,[],pre++Zp (qL X.w.params) a (1 + nl t - nl (Y0 t rows.length)) (Y0 t rows.length) []++post⟩):LS (X.callee (Y4 pm cd doc dV kV) L fa) 10 ⟨lwL l1 (some (Yr rows)) l3 l4 (some (Zs kds)),lwC c1 c2 c3 c4 (some (Zs aq)) c6 c7 (some (nat n)) (some (.ref a.L)) (some (Zs τ)) (some (nat few)) d3 d4,[],pre++Zp (qL X.w.params) a 1 t []++post⟩ Q:=by
 refine LS.i G hA fun hR hh G'=>?_;refine ES.ite ?_;walk_at"v";refine AT.orCons ?_;walk_at"v";refine EV.lcs ?_ (by kernel_rfl) (by kernel_rfl) rfl (by intro _;rfl);walk_at"vs";refine .mk _ _ _ _ (fun j=>V.str (Ox t j)) (fun j=>pre++Zp (qL X.w.params) a (1 + nl t - nl (Y0 t j)) (Y0 t j) []++post) (ITERC.list hh) (by walk_at"vsc") (by rw[length_map];exact Wf hrl) ?_ ?_ ?_
 ·show pre++Zp (qL X.w.params) a (1 + nl t - nl t) t []++post=pre++Zp (qL X.w.params) a 1 t []++post;rw[Int.add_sub_cancel]
 ·intro C D c j dj hj;walk_at"vs";refine EV.getTok (a:=a) (k:=k + 3) (G3.comp G') hR hok ?_;walk_at"vs";refine .mk (1 + nl t - nl (Y0 t j)) (Y0 t j) [] pre (post++[(D,c)]) rfl (append_assoc _ _ _) (le_trans (Uj _ _) hs) (zero_le _) (fun _=>?_) (fun d p' hp=>by cases hp);refine⟨rfl,by(try dsimp only);walk_at"vwk",by(try dsimp only);walk_at"vwk",rfl,?_⟩;show pre++Zp (qL X.w.params) a (1 + nl t - nl (Y0 t j) + nl (Y0 t j) - nl (Y0 t (j + 1))) (Y0 t (j + 1)) []++(post++[(D,c)])=pre++Zp (qL X.w.params) a (1 + nl t - nl (Y0 t (j + 1))) (Y0 t (j + 1)) []++post++[(D,c)];rw[sub_add_cancel,append_assoc (pre++_) post]
 rw[length_map,show(List.range rows.length).map (fun j=>V.str (Ox t j))=rows.map V.str by show(List.range rows.length).map (V.str ∘ Ox t)=_;rw[<- map_map,htok]];walk_at"vs";refine CMP.nev 2 hR (Sm rows) ?_;walk_at"vs";refine(if_neg (by decide)).mpr ?_;refine AT.orCons ?_;walk_at"v";refine EV.bin ?_;refine EV.lcm (α:=Int) ?_ (by kernel_rfl) (by kernel_rfl) rfl (by intro _;rfl);walk_at"vs";refine EV.list ?_;walk_at"vss";refine BIN.addL ?_ (by rw[length_map,hnl];exact Wf (add_le_add_left hn.2 1));rw[show[V.int 0]++aq.map V.int=([0]++aq).map V.int by rw[map_append];rfl];refine⟨_,[],_,[0]++aq,V.int,V.int ∘ kdF,ITERC.list hh,by walk_at"vsc",by rw[length_append,hnl];exact Wf (add_le_add_left hn.2 1),?_,?_⟩
 ·intro C D c x hx;walk_at"vs";refine EV.callG (by walk_at"vg") 153 (by walk_at"vgn") (Ly _) (Km _) ?_;walk_at"vs";refine sp_153 (k:=k + 6) (G3.comp G') hR ?_;exact⟨rfl,by walk_at"vback"⟩
 haveI e1:([0]++aq).map (V.int ∘ kdF)=([0]++replicate n (1:Int)).map V.int:=by
  rw[<- map_map,map_append,show aq.map kdF=replicate n (1:Int) by rw[<- hnl];exact List.map_eq_replicate_iff.mpr h1];rfl
 rw[e1];walk_at"vs";refine BIN.addL ?_ (by rw[length_map,length_map,length_append,length_replicate,hkl];exact Wf (b:=11) (add_le_add (add_le_add_left hn.2 1) hn.2));walk_at"v";walk_at"v";refine EV.list ?_;walk_at"vss";refine EV.list ?_;walk_at"vss";refine BIN.mulL ?_ (by decide) (by rw[toNat_natCast];exact le_trans (le_of_eq (Nat.one_mul _)) (le_trans hn.2 (by decide))) (by exact Mh (lt_succ_of_le hn.2) (by decide));rw[ones];walk_at"vs";refine BIN.addL ?_ (by rw[length_map,length_replicate];exact le_trans (add_le_add_left hn.2 1) (by decide));walk_at"vs";refine EV.lcm (α:=Int) ?_ (by kernel_rfl) (by kernel_rfl) rfl (by intro _;rfl);walk_at"vs";refine⟨_,[],_,aq,V.int,V.int ∘ Q3 τ few,ITERC.list hh,by walk_at"vsc",by rw[hnl];exact Wf hn.2,?_,?_⟩
 ·intro C D c x hx;walk_at"vs";refine⟨few,rfl,?_⟩;walk_at"vs";refine SUB.sliceL (by rw[length_map,hrk];exact Wf hn.2) (by decide) ?_;rw[S1 (by rw[length_map,hrk];exact hfw),<- map_take];refine CMP.inL 1 hR (Kf _ _) ?_;rw[F4];walk_at"vs"
  haveI e1:(V.int ∘ Q3 τ few) x=V.int (if x ∈ τ.take few then 1 else 2):=rfl
  rw[e1]
  by_cases q:x ∈ τ.take few
  ·rw[if_pos (decide_eq_true q),if_pos q];walk_at"vs";exact⟨rfl,by walk_at"vback"⟩
  ·rw[if_neg (by rw[decide_eq_false q];decide),if_neg q];walk_at"vs";exact⟨rfl,by walk_at"vback"⟩
 walk_at"vs";refine BIN.addL ?_ (by rw[length_append,length_map,length_map,length_replicate,hnl];exact le_trans (add_le_add (add_le_add_left hn.2 1) hn.2) (by decide));rw[show([V.int 0]++List.map V.int (replicate n (1:Int)))++List.map (V.int ∘ Q3 τ few) aq=(([0]++replicate n (1:Int))++kds).map V.int by rw[hkd,map_append,map_append,map_map];rfl,<- map_append];refine CMP.nev 2 hR (V5 _) ?_;walk_at"vs";refine(if_neg (by decide)).mpr ?_;walk_at"vs";refine(if_neg (by decide)).mpr ?_;walk_at"vs";exact h
end
end
section
noncomputable def Qr(p:Nat × Nat)(w:Nat):Nat:=[nat p.1,nat p.2].countP (isI w)
theorem H0(p:Nat × Nat)(w:Nat):Qr p w=(if p.2=w then 1 else 0) + (if p.1=w then 1 else 0):=by
 delta Qr
 rw[countP_cons,countP_cons,List.countP_nil,zero_add];show(if ((p.2:Int) == (w:Int))=true then 1 else 0) + (if ((p.1:Int) == (w:Int))=true then 1 else 0)=_
 haveI e:∀ x:Nat,(if ((x:Int) == (w:Int))=true then 1 else 0)=if x=w then 1 else 0:=fun x=>by
  by_cases q:x=w
  ·rw[if_pos q,q,if_pos (beq_self_eq_true _)]
  ·rw[if_neg q,if_neg fun h=>q (ofNat_inj.mp (eq_of_beq h))]
 rw[e,e]
noncomputable def V6(ψ:List Nat)(ax:List (Nat × Nat))(w u:Nat):Int × Int × Int:=((Qr (ax.getD u (0,0)) w:Nat),if (ax.getD u (0,0)).2=w then 1 else 0,((Qr (ax.getD u (0,0)) w:Nat):Int) * (ψ.getD u 0:Nat))
noncomputable def Yi(ax:List (Nat × Nat))(t w:Nat):List Nat:=(List.range t).filter fun u=>decide (w ∈ [(ax.getD u (0,0)).1,(ax.getD u (0,0)).2])
noncomputable def gT(ar:List Str)(ψ:List Nat)(ax:List (Nat × Nat))(t w:Nat):TD:=((Yi ax t w).map fun u=>ar.getD u "",(Yi ax t w).map (V6 ψ ax w))
theorem U3{ar:List Str}(hn:ar.Nodup):∀ {l:List Nat},l.Nodup->(∀ u ∈ l,u < ar.length)->(l.map fun u=>ar.getD u "").Nodup
 | [],_,_=>nodup_nil
 | a::l,h,hl=>by
  obtain⟨h1,h2⟩:=nodup_cons.mp h;rw[map_cons];refine nodup_cons.mpr ⟨fun q=>?_,U3 hn h2 fun u hu=>hl u (mem_cons_of_mem _ hu)⟩;obtain⟨u,hu,e⟩:=mem_map.mp q;exact h1 (U0 hn (hl u (mem_cons_of_mem _ hu)) (hl a mem_cons_self) e ▸ hu)
theorem Rn(ax:List (Nat × Nat))(t w:Nat):(Yi ax t w).Nodup:=nodup_range.filter _
theorem Vy{ax:List (Nat × Nat)}{t w u:Nat}(h:u ∈ Yi ax t w):u < t:=mem_range.mp (mem_filter.mp h).1
theorem Qx{ks:List Str}{vs:List (Int × Int × Int)}(hn:ks.Nodup)(hl:ks.length=vs.length)(k:Str)(v:Int × Int × Int):Uv (ks,vs) ([k],[v])=Ze (ks,vs) (k,v):=by
 delta Uv
 rw[Ym ks vs [] [] hl hn];rfl
theorem Qy{ks:List Str}{vs:List (Int × Int × Int)}(hn:ks.Nodup)(hl:ks.length=vs.length){k:Str}(hk:k ∉ ks)(v:Int × Int × Int):Uv (ks,vs) ([k],[v])=(ks++[k],vs++[v]):=by
 rw[Qx hn hl];delta Ze Zo vput;rw[if_neg hk,if_neg hk,if_neg hk]
theorem Nl{ks:List Str}{vs:List (Int × Int × Int)}{k:Str}(hn:(ks++[k]).Nodup)(hl:ks.length=vs.length)(v o:Int × Int × Int):Uv (ks++[k],vs++[o]) ([k],[v])=(ks++[k],vs++[P4 v o]):=by
 haveI hl2:(ks++[k]).length=(vs++[o]).length:=by rw[length_append,length_append,hl];rfl
 haveI hi:ks.length < (ks++[k]).length:=by rw[length_append];exact lt_succ_self _
 haveI e:(ks++[k]).getD ks.length "" =k:=by rw[getD_eq_getElem?_getD,getElem?_append_right (le_refl _),sub_self];rfl
 haveI e2:(vs++[o]).getD ks.length (0,0,0)=o:=by rw[hl,getD_eq_getElem?_getD,getElem?_append_right (le_refl _),sub_self];rfl
 haveI h1:=Wv hn hl2 "" (0,0,0) hi
 haveI h2:=O4 hn hl2 hi (P4 v o)
 rw[e] at h1 h2;rw[e2] at h1
 haveI hm:k ∈ ks++[k]:=mem_append_right _ mem_cons_self
 rw[Qx hn hl2]
 delta Ze
 rw[if_pos hm,h1];show(Zo (ks++[k]) k,vput (ks++[k]) (vs++[o]) k (P4 v o))=_;rw[h2,hl,List.set_append_right _ _ (le_refl _),sub_self]
 delta Zo;rw[if_pos hm];rfl
theorem Ri{α:Type}{f g:Nat->α}{n i:Nat}(h:∀ j,j < n->j ≠ i->f j=g j):((List.range n).map f).set i (g i)=(List.range n).map g:=by
 refine ext_getElem? fun j=>?_;rw[List.getElem?_set,getElem?_map,getElem?_map,length_map,length_range]
 by_cases hj:j < n
 ·rw[getElem?_range hj]
  by_cases e:i=j
  ·subst e;rw[if_pos rfl,if_pos hj];rfl
  ·rw[if_neg e];exact congrArg some (h j hj fun q=>e q.symm)
 ·rw[getElem?_eq_none (l:=List.range n) (by rw[length_range];exact le_of_not_lt hj)]
  by_cases e:i=j
  ·rw[if_pos e,if_neg (e ▸ hj)];rfl
  ·rw[if_neg e];rfl
theorem Pa(ax:List (Nat × Nat))(t w:Nat):Yi ax (t + 1) w=Yi ax t w++if w ∈ [(ax.getD t (0,0)).1,(ax.getD t (0,0)).2] then [t] else []:=by
 delta Yi
 rw[range_succ,List.filter_append]
 by_cases h:w ∈ [(ax.getD t (0,0)).1,(ax.getD t (0,0)).2]
 ·rw[if_pos h,filter_cons,if_pos (decide_eq_true h)];rfl
 ·rw[if_neg h,filter_cons,if_neg (by rw[decide_eq_true_eq];exact h)];rfl
theorem S9{ar:List Str}{ψ:List Nat}{ax:List (Nat × Nat)}(hn:ar.Nodup)(hlt:∀ p ∈ ax,p.1 < ar.length /\ p.2 < ar.length)(hd:ax.length=ar.length):∀ t,t ≤ ar.length->Y9 ar ψ ax t=(List.range ar.length).map (gT ar ψ ax t)
 | 0,_=>by
  show replicate ar.length (([],[]):TD)=_;rw[show gT ar ψ ax 0=fun _=>(([],[]):TD) from rfl,List.map_const',length_range]
 | t + 1,ht=>by
  rw[Xf,S9 hn hlt hd t (le_of_succ_le ht)]
  haveI hpl:=hlt _ (mem_of_getElem? (Zi (0,0) (hd.symm ▸ ht:t < ax.length)))
  haveI kd:∀ w,((Yi ax t w).map fun u=>ar.getD u "").Nodup:=fun w=>U3 hn (Rn ..) fun u hu=>lt_trans (Vy hu) ht
  haveI kn:∀ w,ar.getD t "" ∉ (Yi ax t w).map fun u=>ar.getD u "" :=fun w q=>by
   obtain⟨u,hu,e⟩:=mem_map.mp q;exact lt_irrefl _ (U0 hn (lt_trans (Vy hu) ht) ht e ▸ Vy hu)
  haveI kl:∀ w,((Yi ax t w).map fun u=>ar.getD u "").length=((Yi ax t w).map (V6 ψ ax w)).length:=fun w=>by rw[length_map,length_map]
  haveI hs:∀ w,gT ar ψ ax (t + 1) w=if w ∈ [(ax.getD t (0,0)).1,(ax.getD t (0,0)).2] then (((Yi ax t w).map fun u=>ar.getD u "")++[ar.getD t ""],(Yi ax t w).map (V6 ψ ax w)++[V6 ψ ax w t]) else gT ar ψ ax t w:=fun w=>by
   delta gT
   rw[Pa];split
   ·rw[map_append,map_append];rfl
   ·rw[append_nil]
  haveI tf:∀ w,V6 ψ ax w t=(((Qr (ax.getD t (0,0)) w:Nat):Int),if (ax.getD t (0,0)).2=w then 1 else 0,((Qr (ax.getD t (0,0)) w:Nat):Int) * (ψ.getD t 0:Nat)):=fun w=>rfl
  haveI ce:=fun w=>H0 (ax.getD t (0,0)) w
  show Rx ar ψ ax (Rx ar ψ ax ((List.range ar.length).map (gT ar ψ ax t)) (t,0)) (t,1)=_
  delta Rx
  show(((List.range ar.length).map (gT ar ψ ax t)).set (ax.getD t (0,0)).1 (Uv (((List.range ar.length).map (gT ar ψ ax t)).getD (ax.getD t (0,0)).1 ([],[])) ([ar.getD t ""],[(1,((0:Nat):Int),(ψ.getD t 0:Nat))]))).set (ax.getD t (0,0)).2 (Uv ((((List.range ar.length).map (gT ar ψ ax t)).set (ax.getD t (0,0)).1 (Uv (((List.range ar.length).map (gT ar ψ ax t)).getD (ax.getD t (0,0)).1 ([],[])) ([ar.getD t ""],[(1,((0:Nat):Int),(ψ.getD t 0:Nat))]))).getD (ax.getD t (0,0)).2 ([],[])) ([ar.getD t ""],[(1,((1:Nat):Int),(ψ.getD t 0:Nat))]))=_;generalize ax.getD t (0,0)=p at *;obtain⟨a,b⟩:=p;dsimp only at *;obtain⟨ha,hb⟩:=hpl;rw[Zq ha,show gT ar ψ ax t a=(_,_) from rfl,Qy (kd a) (kl a) (kn a)]
  by_cases e:a=b
  ·subst e;rw[show ∀ x:TD,(((List.range ar.length).map (gT ar ψ ax t)).set a x).getD a ([],[])=x from fun x=>by rw[getD_eq_getElem?_getD,List.getElem?_set_self (by rw[length_map,length_range];exact ha)];rfl,Nl (nodup_append.mpr ⟨kd a,nodup_cons.mpr ⟨(fun h=>nomatch h),nodup_nil⟩,fun x hx y hy q=>by rw[mem_singleton] at hy;rw[q,hy] at hx;exact kn a hx⟩) (kl a),List.set_set]
   haveI hv:gT ar ψ ax (t + 1) a=(((Yi ax t a).map fun u=>ar.getD u "")++[ar.getD t ""],(Yi ax t a).map (V6 ψ ax a)++[P4 (1,((1:Nat):Int),(ψ.getD t 0:Nat)) (1,((0:Nat):Int),(ψ.getD t 0:Nat))]):=by
    rw[hs,if_pos mem_cons_self,tf,ce,if_pos rfl,if_pos rfl]
    delta P4
    rw[show((1 + 1:Nat):Int) * (ψ.getD t 0:Nat)=(ψ.getD t 0:Nat) + (ψ.getD t 0:Nat) from Int.two_mul _];rfl
   rw[<- hv];exact Ri fun j _ hj=>by rw[hs,if_neg (by rw[mem_cons,mem_singleton];exact fun q=>q.elim hj hj)]
  ·rw[show ∀ x:TD,(((List.range ar.length).map (gT ar ψ ax t)).set a x).getD b ([],[])=gT ar ψ ax t b from fun x=>by rw[getD_eq_getElem?_getD,List.getElem?_set_ne e,<- getD_eq_getElem?_getD,Zq hb],show gT ar ψ ax t b=(_,_) from rfl,Qy (kd b) (kl b) (kn b)]
   haveI hva:gT ar ψ ax (t + 1) a=(((Yi ax t a).map fun u=>ar.getD u "")++[ar.getD t ""],(Yi ax t a).map (V6 ψ ax a)++[((1:Int),((0:Nat):Int),((ψ.getD t 0:Nat):Int))]):=by
    rw[hs,if_pos mem_cons_self,tf,ce,if_neg (fun q=>e q.symm),if_pos rfl,if_neg (fun q=>e q.symm),show((0 + 1:Nat):Int) * (ψ.getD t 0:Nat)=(ψ.getD t 0:Nat) from one_mul _];rfl
   haveI hvb:gT ar ψ ax (t + 1) b=(((Yi ax t b).map fun u=>ar.getD u "")++[ar.getD t ""],(Yi ax t b).map (V6 ψ ax b)++[((1:Int),((1:Nat):Int),((ψ.getD t 0:Nat):Int))]):=by
    rw[hs,if_pos (mem_cons_of_mem _ mem_cons_self),tf,ce,if_pos rfl,if_neg e,if_pos rfl,show((1 + 0:Nat):Int) * (ψ.getD t 0:Nat)=(ψ.getD t 0:Nat) from one_mul _];rfl
   rw[<- hva,<- hvb]
   haveI e1:=Ri (f:=gT ar ψ ax t) (g:=fun j=>if j=a then gT ar ψ ax (t + 1) a else gT ar ψ ax t j) (n:=ar.length) (i:=a) fun j _ hj=>by rw[if_neg hj]
   rw[if_pos rfl] at e1;rw[e1];refine Ri (g:=gT ar ψ ax (t + 1)) fun j _ hj=>?_
   by_cases q:j=a
   ·rw[if_pos q,q]
   ·rw[if_neg q,hs,if_neg (by rw[mem_cons,mem_singleton];exact fun r=>r.elim q hj)]
theorem Vx{α β:Type}[DecidableEq α]{l:List (α × β)}(hn:(l.map (·.1)).Nodup):Z9 l ([],[])=(l.map (·.1),l.map (·.2)):=by
 haveI:=Ym (l.map (·.1)) (l.map (·.2)) [] [] (by rw[length_map,length_map]) (by exact hn)
 rw[show(l.map (·.1)).zip (l.map (·.2))=l by rw[<- List.unzip_fst,<- List.unzip_snd];exact List.zip_unzip l] at this;exact this
end
section
theorem SQ.tv{n:Nat}(x:Int × Int × Int):SQ (n + 1) (tv x) (tv x):=.tup rfl fun i d d' h1 h2=>by
 rw[h1] at h2;cases h2
 match i,h1 with
 | 0,h1=>cases h1;exact .int ..
 | 1,h1=>cases h1;exact .int ..
 | 2,h1=>cases h1;exact .int ..
 | _ + 3,h1=>exact nomatch h1
theorem SQ.self{n:Nat}{ks:List Str}{ls:List V}(hn:ks.Nodup)(hl:ks.length=ls.length)(h:∀ d ∈ ls,SQ n d d):(∀ k ∈ ks,vat ks ls k=some ((vat ks ls k).getD .none)) /\ ∀ (i:Nat) k d,ks[i]?=some k->ls[i]?=some d->SQ n d ((vat ks ls k).getD .none):=by
 refine⟨fun k hk=>?_,fun i k d h1 h2=>?_⟩
 ·obtain⟨o,ho⟩:=Option.isSome_iff_exists.mp ((Xn hl).trans (decide_eq_true hk));rw[ho];rfl
 ·rw[W0 hn (List.mem_iff_getElem?.mpr ⟨i,getElem?_zip_eq_some.mpr ⟨h1,h2⟩⟩)];exact h d (mem_of_getElem? h2)
theorem SQ.dV{n:Nat}{t:TD}(hn:t.1.Nodup)(hl:t.1.length=t.2.length):SQ (n + 2) (dV t) (dV t):=by
 obtain⟨h1,h2⟩:=SQ.self (n:=n + 1) (ls:=t.2.map Mine.tv) hn (by rw[length_map];exact hl) fun d hd=>by obtain⟨x,_,rfl⟩:=mem_map.mp hd;exact SQ.tv x
 exact .sdict _ rfl h1 h2
section
variable{X:Cx}{B:St}{k:Nat}{P:V->St->Prop}
variable{pm cd doc dV kV:Value}{L fa:Addr}{m:List (Addr × Cell)}{Q:Fl->St->Prop}{c1 c2 c3 c4 c5 c6 c7 c8 c9 d1 d2 d3 d4 l1 l2 l3 l4 l5 l6 l7 l8 l9:Option V}{a:LxA}{pre post:List (Addr × Cell)}
theorem law_11(G:G3 X)(hA:Rm X.A (k + 9)){ar:List Str}{aq:List Int}{ψ:List Nat}{ax:List (Nat × Nat)}(hb:BOk ar aq ψ ax)
  (h:Q .next ⟨lwL l1 l2 l3 (some (.sdict ar ((Y9 ar ψ ax ar.length).map Mine.dV))) l5,lwC c1 c2 c3 (some (Yr ar)) c5 (some (Y1 ψ)) (some (T9 ax)) (some (nat ar.length)) c9 d1 d2 d3 d4,[],m⟩):LS (X.callee (Y4 pm cd doc dV kV) L fa) 11 ⟨lwL l1 l2 l3 (some (.sdict ar ((Y9 ar ψ ax ar.length).map Mine.dV))) l5,lwC c1 c2 c3 (some (Yr ar)) c5 (some (Y1 ψ)) (some (T9 ax)) (some (nat ar.length)) c9 d1 d2 d3 d4,[],m⟩ Q:=by
 refine LS.i G hA fun hR hh G'=>?_
 haveI hn5:=hb.n.2
 haveI hns:ar.length ≤ sizeLine:=le_trans hn5 (by decide)
 haveI hds:ax.length ≤ sizeLine:=hb.dl ▸ hns
 haveI hlsz:ψ.length ≤ sizeLine:=hb.ll ▸ hns
 haveI hge:=S9 hb.nd hb.lt hb.dl (ψ:=ψ) ar.length (le_refl _)
 refine ES.ite ?_;walk_at"vs";refine EV.dcs (α:=Nat) ?_ (by kernel_rfl) (by kernel_rfl) rfl (by intro _;rfl);refine EV.rangeC (by walk_at"vg") ?_;walk_at"vs";refine CALL.range ?_;refine⟨_,_,_,List.range ar.length,nat,fun w=>(ar.getD w "",Mine.dV (gT ar ψ ax ar.length w)),fun _=>true,ITERC.rngN hh (le_trans hn5 (by decide)),by walk_at"vsc",by rw[length_range];exact hns,?_,?_⟩
 ·intro C D c w hw
  haveI hwl:=mem_range.mp hw
  walk_at"vs";refine⟨rfl,?_⟩;refine(if_pos rfl).mpr ?_;walk_at"vs";refine SUB.li w "" rfl hwl hns ?_;refine⟨rfl,?_⟩;refine EV.dcs (α:=Nat) ?_ (by kernel_rfl) (by kernel_rfl) rfl (by intro _;rfl);refine EV.rangeC (G3.comp G') ?_;walk_at"vs";refine CALL.range ?_;refine⟨_,_,_,List.range ar.length,nat,fun u=>(ar.getD u "",tv (V6 ψ ax w u)),fun u=>decide (w ∈ [(ax.getD u (0,0)).1,(ax.getD u (0,0)).2]),ITERC.rngN hh (le_trans hn5 (by decide)),by walk_at"vsc",by rw[length_range];exact hns,?_,?_⟩
  ·intro C2 D2 c2 u hu
   haveI hul:=mem_range.mp hu
   walk_at"vs";refine SUB.li u (0,0) rfl (hb.dl.symm ▸ hul) hds ?_;show CMP _ _ _ (V.tup ([(ax.getD u (0,0)).1,(ax.getD u (0,0)).2].map nat)) _ _;refine CMP.inT 1 hR (Tg (w:Int) _) ?_;rw[Jc];walk_at"vs";refine⟨rfl,?_⟩;split
   ·walk_at"vs";refine SUB.li u "" rfl hul hns ?_;refine⟨rfl,?_⟩
    haveI cnt:∀ {P:V->St->Prop} {B1:St} {Y:Cx},Rm Y.A (k + 8)->P (.int (Qr (ax.getD u (0,0)) w:Nat)) B1->CALL Y (.builtin "tuple.count") [nt2 (ax.getD u (0,0)),nat w] B1 P:=fun hR hp=>
     CALL.countT 1 hR (f:=isI w) (Tg (w:Int) [(ax.getD u (0,0)).1,(ax.getD u (0,0)).2]) hp
    walk_at"v";walk_at"v";refine EV.meth "tuple" "tuple.count" F.plainAttrs_tuple F.slot_tuple_count F.type_tuple_count ?_;walk_at"vs";refine SUB.li u (0,0) rfl (hb.dl.symm ▸ hul) hds ?_;refine⟨TypeV.tup,?_⟩;walk_at"vs";refine cnt hR ?_;walk_at"v";refine EV.ife2 (c:=decide ((ax.getD u (0,0)).2=w)) (d1:=.int 1) (d2:=.int 0) ?_ ?_ ?_ ?_
    ·walk_at"vs";refine SUB.li u (0,0) rfl (hb.dl.symm ▸ hul) hds ?_;walk_at"vs";refine SUB.ti 1 (d:=nat (ax.getD u (0,0)).2) rfl rfl (le_of_ble_eq_true rfl) ?_;walk_at"vs";rw[eqN];exact⟨rfl,rfl⟩
    ·walk_at"vs";exact⟨rfl,rfl⟩
    ·walk_at"vs";exact⟨rfl,rfl⟩
    walk_at"v";walk_at"v";refine EV.meth "tuple" "tuple.count" F.plainAttrs_tuple F.slot_tuple_count F.type_tuple_count ?_;walk_at"vs";refine SUB.li u (0,0) rfl (hb.dl.symm ▸ hul) hds ?_;refine⟨TypeV.tup,?_⟩;walk_at"vs";refine cnt hR ?_;walk_at"vs";refine SUB.li u 0 rfl (hb.ll.symm ▸ hul) hlsz ?_
    haveI hc2:Qr (ax.getD u (0,0)) w ≤ 2:=List.countP_le_length
    refine BIN.mul ?_ ⟨Int.lt_of_lt_of_le (by decide) (natCast_nonneg _),Int.lt_of_le_of_lt (ofNat_le.mpr hc2) (by decide)⟩;walk_at"vss";refine⟨?_,by walk_at"vback"⟩;show V.tup [_,_,_]=V.tup [_,.int (if (ax.getD u (0,0)).2=w then 1 else 0),_];congr 3
    by_cases q:(ax.getD u (0,0)).2=w
    ·rw[if_pos (decide_eq_true q),if_pos q]
    ·rw[if_neg (by rw[decide_eq_true_eq];exact q),if_neg q]
   ·walk_at"vback"
  refine⟨?_,by walk_at"vback"⟩;rw[Vx (by rw[map_map];exact U3 hb.nd (Rn ax ar.length w) fun u hu=>Vy hu),map_map,map_map];show V.sdict _ _=V.sdict _ (((Yi ax ar.length w).map (V6 ψ ax w)).map Mine.tv);rw[map_map];rfl
 rw[filter_eq_self.mpr (fun _ _=>rfl),Vx (by rw[map_map];exact U3 hb.nd nodup_range fun u hu=>mem_range.mp hu),map_map,map_map]
 haveI hwr:(List.range ar.length).map ((·.1) ∘ fun w=>(ar.getD w "",Mine.dV (gT ar ψ ax ar.length w)))=ar:=(Wl (Str.ofString "") (by rw[length_map,length_range]) fun i hi=>(Zq (f:=fun u=>ar.getD u "") hi).symm).symm
 rw[hwr,show(List.range ar.length).map ((·.2) ∘ fun w=>(ar.getD w "",Mine.dV (gT ar ψ ax ar.length w)))=(Y9 ar ψ ax ar.length).map Mine.dV by rw[hge,map_map];rfl]
 obtain⟨h1,h2⟩:=SQ.self (n:=2) (ls:=(Y9 ar ψ ax ar.length).map Mine.dV) hb.nd (by rw[length_map,W3]) fun d hd=>by
  rw[hge,map_map] at hd;obtain⟨w,_,rfl⟩:=mem_map.mp hd;exact SQ.dV (n:=0) (U3 hb.nd (Rn ..) fun u hu=>Vy hu) (by show(List.map _ _).length=(List.map _ _).length;rw[length_map,length_map])
 refine CMP.neS 2 hR rfl h1 h2 ?_;walk_at"vs";refine(if_neg (by decide)).mpr ?_;walk_at"vs";exact h
end
end
section
theorem Oy{ar:List Str}{aq:List Int}{ψ:List Nat}{ax:List (Nat × Nat)}{e:Int}(hb:BOk ar aq ψ ax)(he:7 ≤ e /\ e ≤ 55):(∀ w ∈ ar,∃ s,vat ar ((Y5 aq e).map V.int) w=some (.int s) /\ s ≠ 0) /\ ∀ w,w ∉ ar->vat ar ((Y5 aq e).map V.int) w=none:=by
 haveI hsl:(Y5 aq e).length=ar.length:=by unfold Y5;rw[length_map,hb.nl]
 haveI hsy:∀ w ∈ ar,∃ s,vat ar ((Y5 aq e).map V.int) w=some (.int s) /\ s ≠ 0:=fun w hw=>by
  obtain⟨j,hj,rfl⟩:=mem_iff_getElem.mp hw;refine⟨(Y5 aq e).getD j 0,?_,?_⟩
  ·rw[Wu]
   haveI:=Wv hb.nd hsl.symm "" 0 hj
   rw[getD_eq_getElem?_getD,getElem?_eq_getElem hj] at this;rw[show ar[j]=(some ar[j]).getD "" from rfl,this];rfl
  ·haveI hjn:j < aq.length:=by rw[hb.nl];exact hj
   haveI:=hb.num _ (mem_of_getElem? (Zi (0:Int) hjn))
   unfold Y5;rw[getD_eq_getElem?_getD,getElem?_map,Z8 (0:Int) hjn];exact Int.ne_of_gt (Int.sub_pos_of_lt (Int.lt_of_le_of_lt he.2 (Int.lt_of_lt_of_le (by decide) (Int.add_le_add_right this.1 256))))
 haveI hno:∀ w,w ∉ ar->vat ar ((Y5 aq e).map V.int) w=none:=fun w hw=>by
  refine Zb fun d hv=>?_;exact absurd (Vd hv) hw
 exact⟨hsy,hno⟩
noncomputable def rfI(who:Nat)(ar:List Str)(ss:List Int)(kds:List Int)(ψ:List Nat)(ax:List (Nat × Nat))(gr:List TD):RunI:=⟨who,ar,ar,ss,kds,ψ,ax,gr⟩
noncomputable def W8(n:Nat)(ω:List (Int × Int × Int)):List Nat:=(List.range n).filter fun u=>(mkA ω u).2.2 == 0
noncomputable def RunI.pks(R:RunI):List Nat:=(List.range R.n).map (R.pick (R.run 130).ω)
structure Jd(R:RunI):Prop where
 ok:RunOk R
 gk:∀ u,u < R.n->(R.gr.getD u ([],[])).1=(R.preds u).map fun v=>R.ar.getD v ""
 fin:(R.run 130).push.length < 130
 rf:Sk R (R.run 130)
 bad:∀ code,J0 (R.run 130).ω R.who R.n (Ng R.who R.kds R.ψ R.ax R.pks R.n code)=[]
section
variable{X:Cx}{B:St}{k:Nat}{P:V->St->Prop}
variable{pm cd doc dV kV:Value}{L fa:Addr}{m:List (Addr × Cell)}{Q:Fl->St->Prop}{c1 c2 c3 c4 c5 c6 c7 c8 c9 d1 d2 d3 d4 l1 l2 l3 l4 l5 l6 l7 l8 l9:Option V}{a:LxA}{pre post:List (Addr × Cell)}
theorem law_12(G:G3 X)(hA:Rm X.A (k + 9))(h:Q .next ⟨lwL l1 l2 l3 l4 l5 (some (Y1 [])),lwC c1 c2 c3 c4 c5 c6 c7 c8 c9 d1 d2 d3 d4,[],m⟩):LS (X.callee (Y4 pm cd doc dV kV) L fa) 12 ⟨lwL l1 l2 l3 l4 l5,lwC c1 c2 c3 c4 c5 c6 c7 c8 c9 d1 d2 d3 d4,[],m⟩ Q:=by
 refine LS.i G hA fun hR hh G'=>?_;walk_at"vag";refine EV.list ?_;walk_at"vss";exact h
theorem law_13(G:G3 X)(hA:Rm X.A (k + 9))(hok:Ux X.w.params a){ar:List Str}{aq:List Int}{ψ:List Nat}{ax:List (Nat × Nat)}{e:Int}{kds:List Int}{gr:List TD}(hb:BOk ar aq ψ ax)(he:7 ≤ e /\ e ≤ 55){i:Int}{t:List Nat}(hs:t.length ≤ sizeLine)(ht:Zf t=([35],[]))
  (hw:∀ who,who < 2->Jd (rfI who ar (Y5 aq e) kds ψ ax gr))
  (h:∀ wh pi ri wo ma,Q .next ⟨lwL l1 l2 l3 (some (.sdict ar (gr.map Mine.dV))) (some (Zs kds)) (some (Y1 ((List.range 2).flatMap fun who=>W8 ar.length ((rfI who ar (Y5 aq e) kds ψ ax gr).run 130).ω))) wh pi ri wo,lwC c1 c2 c3 (some (Yr ar)) c5 (some (Y1 ψ)) (some (T9 ax)) (some (nat ar.length)) (some (.ref a.L)) d1 d2 d3 (some (.sdict ar ((Y5 aq e).map V.int))) ma,[],pre++Zp (qL X.w.params) a (i + nl t) [] []++post⟩):LS (X.callee (Y4 pm cd doc dV kV) L fa) 13 ⟨lwL l1 l2 l3 (some (.sdict ar (gr.map Mine.dV))) (some (Zs kds)) (some (Y1 [])),lwC c1 c2 c3 (some (Yr ar)) c5 (some (Y1 ψ)) (some (T9 ax)) (some (nat ar.length)) (some (.ref a.L)) d1 d2 d3 (some (.sdict ar ((Y5 aq e).map V.int))),[],pre++Zp (qL X.w.params) a i t []++post⟩ Q:=by
 refine LS.i G hA fun hR hh G'=>?_
 haveI hn5:=hb.n.2
 haveI hns:ar.length ≤ sizeLine:=le_trans hn5 (by decide)
 have⟨hsy,hno⟩:=Oy hb he
 haveI ht0:Zf ([]:List Nat)=([],[]):=rfl
 refine ES.for hh ?_;walk_at"vss";refine .js _ (ITER.tup (l:=[nat 0,nat 1]) hh) (fun _=>True) (fun j o=>⟨lwL l1 l2 l3 (some (.sdict ar (gr.map Mine.dV))) (some (Zs kds)) (some (Y1 ((List.range j).flatMap fun who=>W8 ar.length ((rfI who ar (Y5 aq e) kds ψ ax gr).run 130).ω))) (o 0) (o 1) (o 2) (o 3),lwC c1 c2 c3 (some (Yr ar)) c5 (some (Y1 ψ)) (some (T9 ax)) (some (nat ar.length)) (some (.ref a.L)) d1 d2 d3 (some (.sdict ar ((Y5 aq e).map V.int))) (o 4),[],if j=0 then pre++Zp (qL X.w.params) a i t []++post else pre++Zp (qL X.w.params) a (i + nl t) [] []++post⟩) [none,none,none,none,none] trivial rfl ?_ ?_
 ·intro j dj o hj _
  haveI hj2:j < 2 /\ dj=nat j:=by
   match j,hj with
   | 0,hj=>cases hj;exact⟨by decide,rfl⟩
   | 1,hj=>cases hj;exact⟨by decide,rfl⟩
   | _ + 2,hj=>exact nomatch hj
  obtain⟨hj2,rfl⟩:=hj2
  haveI W:=hw j hj2
  walk_at"vs"
  obtain⟨i',t',wd,hm1,hs',hwd,hno',hm2,hj1⟩:∃ (i':Int) (t':List Nat) (wd:Str),(if j=0 then pre++Zp (qL X.w.params) a i t []++post else pre++Zp (qL X.w.params) a (i + nl t) [] []++post)=pre++Zp (qL X.w.params) a i' t' []++post /\ t'.length ≤ sizeLine /\ tx (Zf t').1=wd /\ wd ∉ ar /\ pre++Zp (qL X.w.params) a (i' + nl t' - nl (Zf t').2) (Zf t').2 []++post=pre++Zp (qL X.w.params) a (i + nl t) [] []++post /\ [V.str "#",V.str ""][j]?=some (.str wd):=by
   match j,hj2 with
   | 0,_=>exact⟨i,t, "#",rfl,hs,by rw[ht];rfl,hb.nh,by rw[ht,show nl []=0 from rfl,sub_zero],rfl⟩
   | 1,_=>exact⟨i + nl t,[], "",rfl,zero_le _,rfl,hb.ne,by rw[ht0,show nl []=0 from rfl,add_zero,sub_zero],rfl⟩
  rw[hm1];generalize hRR:rfI j ar (Y5 aq e) kds ψ ax gr=R at W
  haveI hRn:R.n=ar.length:=by rw[<- hRR];rfl
  haveI hfl:(List.range (j + 1)).flatMap (fun who=>W8 ar.length ((rfI who ar (Y5 aq e) kds ψ ax gr).run 130).ω)=(List.range j).flatMap (fun who=>W8 ar.length ((rfI who ar (Y5 aq e) kds ψ ax gr).run 130).ω)++W8 ar.length (R.run 130).ω:=by
   rw[range_succ,flatMap_append,List.flatMap_singleton,hRR]
  haveI hkl:((List.range j).flatMap (fun who=>W8 ar.length ((rfI who ar (Y5 aq e) kds ψ ax gr).run 130).ω)).length ≤ 10:=by
   haveI hk5:∀ m,(W8 ar.length m).length ≤ 5:=fun m=>le_trans (length_filter_le ..) (by rw[length_range];exact hn5)
   match j,hj2 with
   | 0,_=>exact zero_le _
   | 1,_=>rw[show List.range 1=[0] from rfl,List.flatMap_singleton];exact le_trans (hk5 _) (by decide)
  generalize (List.range j).flatMap (fun who=>W8 ar.length ((rfI who ar (Y5 aq e) kds ψ ax gr).run 130).ω)=kp at *
  haveI hlm:=W.rf.lm
  walk_at"vag";refine EV.callG (by walk_at"vg") 170 (by walk_at"vgn") (Jx _) (Xu _) ?_;walk_at"vs"
  haveI q170:∀ {P:V->St->Prop} {B1:St},B1.mem=pre++Zp (qL X.w.params) a i' t' []++post->P (.tup [.list ((R.run 130).ω.map tv),.list (R.pks.map nat),.bool true,.str wd]) {B1 with mem:=pre++Zp (qL X.w.params) a (i + nl t) [] []++post}->CALL (X.callee (Y4 pm cd doc dV kV) L fa) (.ref 170) [nat j,.ref a.L,Yr ar,.sdict ar ((Y5 aq e).map V.int),Zs kds,Y1 ψ,T9 ax,.sdict ar (gr.map Mine.dV)] B1 P:=@fun P B1 hm hp=>by
   haveI q:=sp_170 (X:=X.callee (Y4 pm cd doc dV kV) L fa) (k:=k + 1) (R:=R) (a:=a) (i:=i') (t:=t') (pre:=pre) (post:=post) G' hR hok hm hs' W.ok (by rw[<- hRR];exact hsy) (by rw[hwd,<- hRR];exact hno wd hno') W.gk W.fin W.rf (by rw[hwd];refine(show ∀ x,x=_->P _ {B1 with mem:=x} from fun x e=>e ▸ hp) _ hm2)
   rw[<- hRR] at q;exact q
  refine q170 rfl ?_;refine AS.tup (ds:=[.list ((R.run 130).ω.map tv),.list (R.pks.map nat),.bool true,.str wd]) hh ?_ (by walk_at"vside") (by intro _;walk_at"vside") (by intro _;walk_at"vside");walk_at"vs";refine(if_neg (by decide)).mpr ?_;walk_at"vs";refine⟨(by decide:2 ≤ sizeLine),?_⟩;walk_at"vs";refine SUB.ti j (d:=.str wd) rfl hj1 (by decide:2 ≤ sizeLine) ?_;walk_at"vs";rw[show(wd != wd)=false from bne_self_eq_false ..];refine(if_neg (by decide)).mpr ?_;walk_at"v";walk_at"v";refine EV.callG (by walk_at"vg") 175 (by walk_at"vgn") (Jw _) (Im _) ?_;walk_at"vs"
  haveI q175:∀ {P:V->St->Prop} {B1:St},P (.bool false) B1->CALL (X.callee (Y4 pm cd doc dV kV) L fa) (.ref 175) [nat j,Zs kds,Y1 ψ,T9 ax,.list ((R.run 130).ω.map tv),.list (R.pks.map nat)] B1 P:=@fun P B1 hp=>by
   haveI q:=sp_175 (X:=X.callee (Y4 pm cd doc dV kV) L fa) (k:=k + 5) (B:=B1) (P:=P) G' hR (hRn ▸ hn5) W.ok.hw W.ok.kl W.ok.ll W.ok.dl hlm (by unfold RunI.pks;rw[length_map,length_range]) W.ok.lt (fun p hp=>by
    obtain⟨u,_,rfl⟩:=mem_map.mp hp
    unfold RunI.pick;split <;> decide) W.bad hp
   rw[<- hRR] at q ⊢;exact q
  refine q175 ?_;walk_at"vs";refine(if_neg (by decide)).mpr ?_;walk_at"vs";refine(if_neg (by decide)).mpr ?_;generalize (R.run 130).ω=mk at hlm hfl ⊢;generalize R.pks=pk at *;clear q170 q175 W
  iterate 5 walk_at"v"
  refine EV.lcf (α:=Nat) ?_ (by kernel_rfl) (by kernel_rfl) rfl (by intro _;rfl);refine EV.rangeC (by walk_at"vg") ?_;walk_at"vs";refine CALL.range ?_;refine⟨_,[],_,List.range ar.length,nat,nat,fun u=>(mkA mk u).2.2 == 0,ITERC.rngN hh (le_trans hn5 (by decide)),by walk_at"vsc",by rw[length_range];exact hns,?_,?_⟩
  ·intro C D c u hu
   haveI hul:u < mk.length:=by rw[hlm,hRn];exact mem_range.mp hu
   walk_at"vs";refine SUB.li u (0,0,0) rfl hul (by rw[hlm,hRn];exact hns) ?_;walk_at"vs";refine SUB.ti 2 (d:=.int (mkA mk u).2.2) rfl rfl (le_of_ble_eq_true rfl) ?_;walk_at"vs";refine⟨rfl,?_⟩;split
   ·walk_at"vs";exact⟨rfl,by walk_at"vback"⟩
   ·walk_at"vback"
  refine BIN.addL ?_ (by rw[length_map,length_map];exact le_trans (add_le_add hkl (le_trans (length_filter_le ..) (by rw[length_range];exact hn5))) (by decide));rw[<- map_append];walk_at"vs";refine JS.at [some (nat j),some (.list (pk.map nat)),some (.bool true),some (.str wd),some (.list (mk.map tv))] trivial ?_;rw[hfl,if_neg (Nat.succ_ne_zero j)];rfl
 intro o _;exact h _ _ _ _ _
end
end
section
open PySem PySem.Spec PySem.Calls PyProof.Rows PySem.W PySem.SeqAt
namespace RunI
variable(R:RunI)
noncomputable def K:Nat:=R.t1 + 1
noncomputable def T:Nat:=(R.t0 + 1) * R.K
noncomputable def mkC(c:Nat):Int × Int × Int:=if c < R.T then (((c % R.K:Nat):Int),(R.t0:Int) - ((c / R.K:Nat):Int),0) else (0,(R.t0:Int),1)
noncomputable def liftN(r c:Nat):Nat:=if R.T ≤ c then R.T else if r=0 then 0 else if r=1 then (c / R.K + 1) * R.K else if r=2 then c / R.K * R.K else if r=3 then c + 1 else c
noncomputable def trN(r c:Nat):Nat:=if r=0 then c / R.T else if r < 3 then c / R.K else c
theorem K0:0 < R.K:=succ_pos _
theorem T0:0 < R.T:=Nat.mul_pos (succ_pos _) R.K0
theorem TK:R.T / R.K=R.t0 + 1:=Nat.mul_div_cancel _ R.K0
theorem div_lt{c:Nat}:c < R.T ↔ c / R.K < R.t0 + 1:=(Nat.div_lt_iff_lt_mul R.K0).symm
theorem div_le{c:Nat}(h:c < R.T):c / R.K ≤ R.t0:=le_of_lt_succ (R.div_lt.mp h)
theorem mk_T{c:Nat}(h:R.T ≤ c):R.mkC c=(0,(R.t0:Int),1):=if_neg (not_lt.mpr h)
theorem mk_lt{c:Nat}(h:c < R.T):R.mkC c=(((c % R.K:Nat):Int),(R.t0:Int) - ((c / R.K:Nat):Int),0):=if_pos h
theorem up_code{q:Nat}(h:q ≤ R.t0):(if 0 < (R.t0:Int) - (q:Int) then ((0:Int),(R.t0:Int) - (q:Int) - 1,(0:Int)) else (0,(R.t0:Int),1))=R.mkC ((q + 1) * R.K):=by
 by_cases h1:q < R.t0
 ·haveI h2:(q + 1) * R.K < R.T:=Nat.mul_lt_mul_of_pos_right (Nat.succ_lt_succ h1) R.K0
  rw[if_pos (Int.sub_pos_of_lt (ofNat_lt.mpr h1)),R.mk_lt h2,Nat.mul_mod_left,Nat.mul_div_cancel _ R.K0,Int.natCast_add,Int.sub_sub];rfl
 ·haveI e:q=R.t0:=le_antisymm h (le_of_not_lt h1)
  subst e;rw[if_neg (by rw[Int.sub_self];decide)];exact(R.mk_T (le_refl R.T)).symm
theorem lift_code{r c:Nat}(hr:r ≤ 4):R6 (R.mkC c) (r:Nat) (R.t0:Nat) (R.t1:Nat)=R.mkC (R.liftN r c):=by
 by_cases hc:R.T ≤ c
 ·rw[R.mk_T hc,show R.liftN r c=R.T from if_pos hc,R.mk_T (le_refl _)];unfold R6;rw[if_pos (.inl rfl),ite_self,ite_self]
 haveI hlt:=lt_of_not_le hc
 haveI hq:=R.div_le hlt
 haveI up:=R.up_code hq
 rw[R.mk_lt hlt];unfold liftN;rw[if_neg hc]
 haveI hr5:r=0 \/ r=1 \/ r=2 \/ r=3 \/ r=4:=(by decide:∀ r ≤ 4,r=0 \/ r=1 \/ r=2 \/ r=3 \/ r=4) r hr
 rcases hr5 with rfl | rfl | rfl | rfl | rfl
 ·rw[if_pos rfl,R.mk_lt R.T0,Nat.zero_mod,Nat.zero_div];show((0:Int),(R.t0:Int),(0:Int))=(0,(R.t0:Int) - 0,0)
  rw[sub_zero]
 ·rw[if_neg (by decide),if_pos rfl,<- up];rfl
 ·rw[if_neg (by decide),if_neg (by decide),if_pos rfl,R.mk_lt (lt_of_le_of_lt (Nat.div_mul_le_self _ _) hlt),Nat.mul_mod_left,Nat.mul_div_cancel _ R.K0];rfl
 ·rw[if_neg (by decide),if_neg (by decide),if_neg (by decide),if_pos rfl]
  haveI hm:=mod_lt c R.K0
  haveI e:=Nat.div_add_mod c R.K
  show(if ((3:Nat):Int)=3 /\ ((c % R.K:Nat):Int) < (R.t1:Int) then (((c % R.K:Nat):Int) + 1,(R.t0:Int) - ((c / R.K:Nat):Int),(0:Int)) else if 0 < (R.t0:Int) - ((c / R.K:Nat):Int) then (0,(R.t0:Int) - ((c / R.K:Nat):Int) - 1,0) else (0,(R.t0:Int),1))=_
  by_cases h1:c % R.K < R.t1
  ·haveI h2:c % R.K + 1 < R.K:=Nat.succ_lt_succ h1
   haveI e1:c + 1=R.K * (c / R.K) + (c % R.K + 1):=by rw[<- add_assoc,e]
   haveI e2:(c + 1) % R.K=c % R.K + 1:=by rw[e1,Nat.mul_add_mod,Nat.mod_eq_of_lt h2]
   haveI e3:(c + 1) / R.K=c / R.K:=by rw[e1,Nat.mul_add_div R.K0,Nat.div_eq_of_lt h2,Nat.add_zero]
   rw[if_pos ⟨rfl,ofNat_lt.mpr h1⟩,R.mk_lt (R.div_lt.mpr (e3 ▸ R.div_lt.mp hlt)),e2,e3];rfl
  ·haveI h2:c % R.K=R.t1:=le_antisymm (le_of_lt_succ hm) (le_of_not_lt h1)
   rw[if_neg (fun q=>h1 (ofNat_lt.mp q.2)),up]
   haveI e5:(c / R.K + 1) * R.K=c + 1:=by
    rw[Nat.add_mul,Nat.one_mul,Nat.mul_comm (c / R.K)];show R.K * (c / R.K) + (R.t1 + 1)=_;rw[<- h2,<- add_assoc,e]
   rw[e5]
 ·rw[if_neg (by decide),if_neg (by decide),if_neg (by decide),if_neg (by decide),R.mk_lt hlt];rfl
theorem liftN_le{r c:Nat}:R.liftN r c ≤ R.T:=by
 unfold liftN;split
 ·exact le_refl _
 ·rename_i hc
  haveI hlt:=lt_of_not_le hc
  split
  ·exact zero_le _
  split
  ·exact mul_le_mul_right _ (succ_le_succ (R.div_le hlt))
  split
  ·exact le_of_lt (lt_of_le_of_lt (Nat.div_mul_le_self _ _) hlt)
  split
  ·exact hlt
  ·exact le_of_lt hlt
theorem lift_mono{r c d:Nat}(hc:c ≤ R.T)(hd:d ≤ R.T)(h:R.trN r c ≤ R.trN r d):R.liftN r c ≤ R.liftN r d:=by
 unfold trN at h
 by_cases h1:R.T ≤ d
 ·rw[show R.liftN r d=R.T from if_pos h1];exact R.liftN_le
 haveI hdlt:=lt_of_not_le h1
 haveI hdk:=R.div_lt.mp hdlt
 haveI h2:¬ R.T ≤ c:=fun q=>by
  haveI hcT:=le_antisymm hc q
  subst hcT;split at h
  ·rw[Nat.div_self R.T0,Nat.div_eq_of_lt hdlt] at h;exact absurd h (by decide)
  split at h
  ·rw[R.TK] at h;exact lt_irrefl _ (lt_of_lt_of_le hdk h)
  ·exact h1 h
 unfold liftN;rw[if_neg h1,if_neg h2];split
 ·exact zero_le _
 rename_i r0;rw[if_neg r0,if_neg r0] at h;split
 ·rename_i r1;rw[if_pos (by rw[r1];decide),if_pos (by rw[r1];decide)] at h;exact mul_le_mul_right _ (succ_le_succ h)
 split
 ·rename_i r2;rw[if_pos (by rw[r2];decide),if_pos (by rw[r2];decide)] at h;exact mul_le_mul_right _ h
 rename_i r1 r2
 haveI h3:¬ r < 3:=fun q=>(by decide:∀ r < 3,¬ r=0->¬ r=1->¬ r=2->False) r q r0 r1 r2
 rw[if_neg h3,if_neg h3] at h;split
 ·exact succ_le_succ h
 ·exact h
theorem tr_mono{r c d:Nat}(h:c ≤ d):R.trN r c ≤ R.trN r d:=by
 unfold trN;split
 ·exact Nat.div_le_div_right h
 split
 ·exact Nat.div_le_div_right h
 ·exact h
theorem cmp_code(s:Int){c d:Nat}(hc:c ≤ R.T)(hd:d ≤ R.T){r:Nat}(hr:r ≤ 4):Yb (([(2,s),(1, -s),(0,s)]:List (Nat × Int)).take (1 + (r + 1) / 2)) (R.mkC c) (R.mkC d)=if R.trN r c < R.trN r d then -s else if R.trN r d < R.trN r c then s else 0:=by
 haveI st:∀ (i:Nat) (t:Int) (cs:List (Nat × Int)) (x y:Int × Int × Int),Yb ((i,t)::cs) x y=if Zw x i < Zw y i then -t else if Zw y i < Zw x i then t else Yb cs x y:=fun _ _ _ _ _=>rfl
 haveI nl:∀ x y:Int × Int × Int,Yb [] x y=0:=fun _ _=>rfl
 haveI p2:∀ x:Int × Int × Int,Zw x 2=x.2.2:=fun _=>rfl
 haveI p1:∀ x:Int × Int × Int,Zw x 1=x.2.1:=fun _=>rfl
 haveI p0:∀ x:Int × Int × Int,Zw x 0=x.1:=fun _=>rfl
 haveI ts:∀ {x:Nat},x < R.T->x / R.T=0:=fun h=>Nat.div_eq_of_lt h
 haveI lk:∀ {x:Nat},x < R.T->x / R.K < R.T / R.K:=fun h=>by rw[R.TK];exact R.div_lt.mp h
 haveI hcol:(r=0 /\ 1 + (r + 1) / 2=1) \/ ((¬ r=0 /\ r < 3) /\ 1 + (r + 1) / 2=2) \/ ((¬ r=0 /\ ¬ r < 3) /\ 1 + (r + 1) / 2=3):=(by decide:∀ r ≤ 4,(r=0 /\ 1 + (r + 1) / 2=1) \/ ((¬ r=0 /\ r < 3) /\ 1 + (r + 1) / 2=2) \/ ((¬ r=0 /\ ¬ r < 3) /\ 1 + (r + 1) / 2=3)) r hr
 haveI tc:∀ {x:Nat},x < R.T->R.trN r x < R.trN r R.T:=fun {x} h=>by
  unfold trN;split
  ·rw[ts h,Nat.div_self R.T0];exact one_pos
  split
  ·exact lk h
  ·exact h
 rcases Nat.lt_or_eq_of_le hc with hc | rfl
 ·rcases Nat.lt_or_eq_of_le hd with hd | rfl
  ·-- both aw
   rw[R.mk_lt hc,R.mk_lt hd]
   haveI e2:∀ cs:List (Nat × Int),Yb ((2,s)::cs) (((c % R.K:Nat):Int),(R.t0:Int) - ((c / R.K:Nat):Int),(0:Int)) (((d % R.K:Nat):Int),(R.t0:Int) - ((d / R.K:Nat):Int),(0:Int))=Yb cs (((c % R.K:Nat):Int),(R.t0:Int) - ((c / R.K:Nat):Int),(0:Int)) (((d % R.K:Nat):Int),(R.t0:Int) - ((d / R.K:Nat):Int),(0:Int)):=fun cs=>by
    rw[st,p2,p2,if_neg (Int.lt_irrefl _),if_neg (Int.lt_irrefl _)]
   haveI i1:∀ a b:Nat,((R.t0:Int) - (a:Int) < (R.t0:Int) - (b:Int)) ↔ b < a:=fun a b=>⟨fun h=>ofNat_lt.mp (Int.lt_of_sub_lt_sub_left h),fun h=>Int.sub_lt_sub_left (ofNat_lt.mpr h) _⟩
   haveI e1:∀ cs:List (Nat × Int),Yb ((1, -s)::cs) (((c % R.K:Nat):Int),(R.t0:Int) - ((c / R.K:Nat):Int),(0:Int)) (((d % R.K:Nat):Int),(R.t0:Int) - ((d / R.K:Nat):Int),(0:Int))=if c / R.K < d / R.K then -s else if d / R.K < c / R.K then s else Yb cs (((c % R.K:Nat):Int),(R.t0:Int) - ((c / R.K:Nat):Int),(0:Int)) (((d % R.K:Nat):Int),(R.t0:Int) - ((d / R.K:Nat):Int),(0:Int)):=fun cs=>by
    rw[st,p1,p1,neg_neg];dsimp only
    by_cases q:c / R.K < d / R.K
    ·rw[if_neg fun w=>Nat.lt_asymm q ((i1 _ _).mp w),if_pos ((i1 _ _).mpr q),if_pos q]
    ·rw[if_neg q]
     by_cases q2:d / R.K < c / R.K
     ·rw[if_pos ((i1 _ _).mpr q2),if_pos q2]
     ·rw[if_neg fun w=>q2 ((i1 _ _).mp w),if_neg fun w=>q ((i1 _ _).mp w),if_neg q2]
   unfold trN;rcases hcol with⟨r0,e⟩ | ⟨⟨r0,r3⟩,e⟩ | ⟨⟨r0,r3⟩,e⟩ <;> rw[e]
   ·rw[if_pos r0,if_pos r0,ts hc,ts hd,if_neg (lt_irrefl _),if_neg (lt_irrefl _)];show Yb ((2,s)::[]) _ _=_;rw[e2];rfl
   ·rw[if_neg r0,if_pos r3,if_neg r0,if_pos r3];show Yb ((2,s)::(1, -s)::[]) _ _=_;rw[e2,e1];rfl
   ·rw[if_neg r0,if_neg r3,if_neg r0,if_neg r3];show Yb ((2,s)::(1, -s)::(0,s)::[]) _ _=_;rw[e2,e1,st,p0,p0,nl]
    haveI ec:=Nat.div_add_mod c R.K
    haveI ed:=Nat.div_add_mod d R.K
    haveI big:∀ {x y:Nat},x / R.K < y / R.K->x < y:=fun h=>lt_of_not_le fun q=>Nat.not_le.mpr h (Nat.div_le_div_right q)
    by_cases q:c / R.K < d / R.K
    ·rw[if_pos q,if_pos (big q)]
    rw[if_neg q]
    by_cases q2:d / R.K < c / R.K
    ·rw[if_pos q2,if_neg (Nat.lt_asymm (big q2)),if_pos (big q2)]
    rw[if_neg q2]
    haveI eq:=le_antisymm (le_of_not_lt q2) (le_of_not_lt q)
    rw[<- eq] at ed;dsimp only
    haveI i0:c % R.K < d % R.K ↔ c < d:=⟨fun h=>by rw[<- ec,<- ed];exact Nat.add_lt_add_left h _,fun h=>by rw[<- ec,<- ed] at h;exact Nat.lt_of_add_lt_add_left h⟩
    haveI i9:d % R.K < c % R.K ↔ d < c:=⟨fun h=>by rw[<- ec,<- ed];exact Nat.add_lt_add_left h _,fun h=>by rw[<- ec,<- ed] at h;exact Nat.lt_of_add_lt_add_left h⟩
    by_cases w:c < d
    ·rw[if_pos (ofNat_lt.mpr (i0.mpr w)),if_pos w]
    ·rw[if_neg fun z=>w (i0.mp (ofNat_lt.mp z)),if_neg w]
     by_cases w2:d < c
     ·rw[if_pos (ofNat_lt.mpr (i9.mpr w2)),if_pos w2]
     ·rw[if_neg fun z=>w2 (i9.mp (ofNat_lt.mp z)),if_neg w2]
  ·rw[R.mk_lt hc,R.mk_T (le_refl _),if_pos (tc hc),Nat.add_comm,List.take_succ_cons,st,p2,p2];exact if_pos (show(0:Int) < 1 by decide)
 ·rcases Nat.lt_or_eq_of_le hd with hd | rfl
  ·rw[R.mk_lt hd,R.mk_T (le_refl _),if_neg (Nat.lt_asymm (tc hd)),if_pos (tc hd),Nat.add_comm,List.take_succ_cons,st,p2,p2,if_neg (show ¬ (1:Int) < 0 by decide)];exact if_pos (show(0:Int) < 1 by decide)
  ·haveI same:∀ cs:List (Nat × Int),∀ x,Yb cs x x=0:=fun cs x=>by
    induction cs with
    | nil=>rfl
    | cons p cs ih=>obtain⟨i,t⟩:=p;rw[st,if_neg (Int.lt_irrefl _),if_neg (Int.lt_irrefl _),ih]
   rw[same,if_neg (lt_irrefl _),if_neg (lt_irrefl _)]
end RunI
end
section
open PySem PySem.Spec PySem.Calls PyProof.Rows PySem.W PySem.SeqAt
namespace RunI
variable(R:RunI)
noncomputable def rk(u:Nat):Nat:=R.τ.getD u 0
noncomputable def sgN(C:Nat->Nat)(u:Nat):Int:=Yb (R.cs u) (R.mkC (C (R.lead u).1)) (R.mkC (C (R.lead u).2))
noncomputable def beN(C:Nat->Nat)(u:Nat):Nat:=Zn (R.lead u) (if R.sgN C u=1 then 1 else 0)
noncomputable def fN(C:Nat->Nat)(u:Nat):Nat:=R.liftN (R.rk u) (C (R.beN C u))
noncomputable def LeT(C:Nat->Nat):Prop:=∀ u,u < R.n->C u ≤ R.T
structure Best(C:Nat->Nat)(u:Nat):Prop where
 own:R.ρ.getD u 0=1->∀ k,R.fN C u ≤ R.liftN (R.rk u) (C (Zn (R.lead u) k))
 oth:R.ρ.getD u 0= -1->∀ k,R.liftN (R.rk u) (C (Zn (R.lead u) k)) ≤ R.fN C u
 one:∃ k,R.fN C u=R.liftN (R.rk u) (C (Zn (R.lead u) k))
end RunI
namespace RunOk
variable{R:RunI}(h:RunOk R)
include h
theorem rk_eq{u:Nat}(hu:u < R.n):R.rk u=R.ψ.getD u 0 + R.who:=by
 delta RunI.rk RunI.τ
 rw[getD_eq_getElem?_getD,getElem?_map,Zi 0 (h.ll.symm ▸ hu)];rfl
theorem line_lt{u:Nat}(hu:u < R.n):R.ψ.getD u 0 < 4:=h.l4 _ (mem_of_getElem? (Zi 0 (h.ll.symm ▸ hu)))
theorem rk4{u:Nat}(hu:u < R.n):R.rk u ≤ 4:=by
 rw[h.rk_eq hu];exact add_le_add (le_of_lt_succ (h.line_lt hu)) (le_of_lt_succ h.hw)
theorem cs_eq{u:Nat}(hu:u < R.n):R.cs u=([(2,R.ρ.getD u 0),(1, -R.ρ.getD u 0),(0,R.ρ.getD u 0)]:List (Nat × Int)).take (1 + (R.rk u + 1) / 2):=by
 delta RunI.cs RunI.κ RunI.rk
 rw[getD_eq_getElem?_getD (l:=List.map _ _),getElem?_map,Zi 0 (h.rl.symm ▸ hu)];rfl
theorem best{C:Nat->Nat}(hC:R.LeT C){u:Nat}(hu:u < R.n):R.Best C u:=by
 obtain⟨ha,hb⟩:=R.lead_lt h hu
 haveI hsg:=R.cmp_code (R.ρ.getD u 0) (hC _ ha) (hC _ hb) (h.rk4 hu)
 rw[<- h.cs_eq hu,show Yb (R.cs u) (R.mkC (C (R.lead u).1)) (R.mkC (C (R.lead u).2))=R.sgN C u from rfl] at hsg
 haveI mo:∀ {x y:Nat},x < R.n->y < R.n->R.trN (R.rk u) (C x) ≤ R.trN (R.rk u) (C y)->R.liftN (R.rk u) (C x) ≤ R.liftN (R.rk u) (C y):=fun hx hy q=>R.lift_mono (hC _ hx) (hC _ hy) q
 haveI sel:∀ {P:Nat->Prop},P (R.lead u).1->P (R.lead u).2->∀ k,P (Zn (R.lead u) k):=fun p q k=>by delta Zn;split;exact p;exact q
 refine⟨fun hs=>?_,fun hs=>?_,_,rfl⟩ <;> delta RunI.fN RunI.beN <;> rw[hsg,hs]
 ·by_cases q1:R.trN (R.rk u) (C (R.lead u).1) < R.trN (R.rk u) (C (R.lead u).2)
  ·rw[if_pos q1,if_neg (by decide)];exact sel (P:=fun x=>R.liftN (R.rk u) (C (Zn (R.lead u) 0)) ≤ R.liftN (R.rk u) (C x)) (le_refl _) (mo ha hb (le_of_lt q1))
  rw[if_neg q1]
  by_cases q2:R.trN (R.rk u) (C (R.lead u).2) < R.trN (R.rk u) (C (R.lead u).1)
  ·rw[if_pos q2,if_pos rfl];exact sel (P:=fun x=>R.liftN (R.rk u) (C (Zn (R.lead u) 1)) ≤ R.liftN (R.rk u) (C x)) (mo hb ha (le_of_lt q2)) (le_refl _)
  ·rw[if_neg q2,if_neg (by decide)];exact sel (P:=fun x=>R.liftN (R.rk u) (C (Zn (R.lead u) 0)) ≤ R.liftN (R.rk u) (C x)) (le_refl _) (mo ha hb (le_of_not_lt q2))
 ·by_cases q1:R.trN (R.rk u) (C (R.lead u).1) < R.trN (R.rk u) (C (R.lead u).2)
  ·rw[if_pos q1,if_pos (by decide)];exact sel (P:=fun x=>R.liftN (R.rk u) (C x) ≤ R.liftN (R.rk u) (C (Zn (R.lead u) 1))) (mo ha hb (le_of_lt q1)) (le_refl _)
  rw[if_neg q1]
  by_cases q2:R.trN (R.rk u) (C (R.lead u).2) < R.trN (R.rk u) (C (R.lead u).1)
  ·rw[if_pos q2,if_neg (by decide)];exact sel (P:=fun x=>R.liftN (R.rk u) (C x) ≤ R.liftN (R.rk u) (C (Zn (R.lead u) 0))) (le_refl _) (mo hb ha (le_of_lt q2))
  ·rw[if_neg q2,if_neg (by decide)];exact sel (P:=fun x=>R.liftN (R.rk u) (C x) ≤ R.liftN (R.rk u) (C (Zn (R.lead u) 0))) (le_refl _) (mo hb ha (le_of_not_lt q1))
theorem fmono{C D:Nat->Nat}(hC:R.LeT C)(hD:R.LeT D)(hCD:∀ u,u < R.n->C u ≤ D u){u:Nat}(hu:u < R.n):R.fN C u ≤ R.fN D u:=by
 haveI ll:∀ k,Zn (R.lead u) k < R.n:=fun k=>Vk (R.lead_lt h hu)
 haveI mo:∀ k,R.liftN (R.rk u) (C (Zn (R.lead u) k)) ≤ R.liftN (R.rk u) (D (Zn (R.lead u) k)):=fun k=>R.lift_mono (hC _ (ll k)) (hD _ (ll k)) (R.tr_mono (hCD _ (ll k)))
 haveI bC:=h.best hC hu
 haveI bD:=h.best hD hu
 rcases h.side hu with s | s
 ·obtain⟨k,e⟩:=bD.one;rw[e];exact le_trans (bC.own s k) (mo k)
 ·obtain⟨k,e⟩:=bC.one;rw[e];exact le_trans (mo k) (bD.oth s k)
end RunOk
theorem RunI.f_same{R:RunI}{C D:Nat->Nat}{u:Nat}(h1:C (R.lead u).1=D (R.lead u).1)(h2:C (R.lead u).2=D (R.lead u).2):R.fN C u=R.fN D u:=by
 haveI e:∀ k,C (Zn (R.lead u) k)=D (Zn (R.lead u) k):=fun k=>by delta Zn;split;exact h1;exact h2
 delta RunI.fN RunI.beN RunI.sgN
 rw[h1,h2,e]
noncomputable def Yx(C:Nat->Nat)(u x:Nat):Nat->Nat:=fun v=>if v=u then x else C v
noncomputable def RunI.ldS(R:RunI)(f:Nat->Int)(u:Nat):Int:=(((List.range R.n).filter fun w=>decide (w ∈ [(R.lead u).1,(R.lead u).2])).map f).sum
theorem O9{f g:Nat->Int}{u:Nat}{d:Int}(hg:∀ w,w ≠ u->g w=f w)(hu:g u=f u + d):∀ {l:List Nat},l.Nodup->(l.map g).sum=(l.map f).sum + if u ∈ l then d else 0
 | [],_=>rfl
 | a::l,h=>by
  obtain⟨h1,h2⟩:=nodup_cons.mp h;rw[map_cons,map_cons,sum_cons,sum_cons,O9 hg hu h2]
  by_cases e:a=u
  ·subst e;rw[if_neg h1,if_pos mem_cons_self,hu,add_zero,Int.add_right_comm]
  ·rw[hg a e,Int.add_assoc];congr 2
   by_cases q:u ∈ l
   ·rw[if_pos q,if_pos (mem_cons_of_mem _ q)]
   ·rw[if_neg q,if_neg fun w=>by rcases mem_cons.mp w with w | w;exact e w.symm;exact q w]
theorem RunI.ldS_upd{R:RunI}{f g:Nat->Int}{u:Nat}(hu:u < R.n){d:Int}(hg:∀ w,w ≠ u->g w=f w)(he:g u=f u + d)(v:Nat):R.ldS g v=R.ldS f v + if u ∈ [(R.lead v).1,(R.lead v).2] then d else 0:=by
 delta RunI.ldS
 rw[O9 hg he (nodup_range.filter _)];congr 1
 by_cases q:u ∈ [(R.lead v).1,(R.lead v).2]
 ·rw[if_pos q,if_pos (mem_filter.mpr ⟨mem_range.mpr hu,decide_eq_true q⟩)]
 ·rw[if_neg q];refine if_neg fun w=>q ?_
  haveI:=(mem_filter.mp w).2
  rwa [decide_eq_true_eq] at this
structure InvR(R:RunI)(j:Nat)(s:Xx)(C:Nat->Nat)(ri:Nat->Nat):Prop where
 lm:s.ω.length=R.n
 lh:s.φ.length=R.n
 mrk:∀ u,u < R.n->mkA s.ω u=R.mkC (C u)
 le:R.LeT C
 inc:∀ u,u < R.n->C u ≤ R.fN C u
 rc:∀ u,u < R.n->ri u ≤ C u
 cc:∀ u,u < R.n->(Zk R.wy (s.φ.getD u [])).cc=(ri u:Int)
 tt:∀ u,u < R.n->(Zk R.wy (s.φ.getD u [])).tt=(R.mkC (C u)).2.2
 lt:∀ u,u < R.n->∀ e ∈ s.φ.getD u [],e.1 < R.n
 pl:∀ u ∈ s.push,u < R.n
 ct:∀ u,u < R.n->(s.push.take j).count u=(s.φ.getD u []).length
 pc:∀ u,u < R.n->(s.push.count u:Int)=1 + R.ldS (fun w=>(ri w:Int)) u
 pe:∀ u,u < R.n->R.fN C u ≠ C u->u ∈ s.push.drop j
 ls:∀ M:Nat->Nat,R.LeT M->(∀ u,u < R.n->R.fN M u ≤ M u)->∀ u,u < R.n->C u ≤ M u
end
section
open PySem PySem.Spec PySem.Calls PyProof.Rows PySem.W PySem.SeqAt
theorem Sa{α:Type}{l:List α}{i j:Nat}{a d:α}(hi:i < l.length):(l.set i a).getD j d=if j=i then a else l.getD j d:=by
 rw[getD_eq_getElem?_getD]
 by_cases e:j=i
 ·subst e;rw[if_pos rfl,List.getElem?_set_self hi];rfl
 ·rw[if_neg e,List.getElem?_set_ne fun q=>e q.symm,getD_eq_getElem?_getD]
theorem Wn{a:Nat}:∀ {l:List Nat},l.Nodup->l.count a=if a ∈ l then 1 else 0
 | [],_=>rfl
 | b::l,h=>by
  obtain⟨h1,h2⟩:=nodup_cons.mp h;rw[count_cons,Wn h2]
  by_cases e:b=a
  ·subst e;rw[if_neg h1,if_pos (beq_self_eq_true _),if_pos mem_cons_self]
  ·rw[show(b == a)=false from beq_eq_false_iff_ne.mpr e];show(if a ∈ l then 1 else 0) + 0=_
   by_cases q:a ∈ l
   ·rw[if_pos q,if_pos (mem_cons_of_mem _ q)]
   ·rw[if_neg q,if_neg fun w=>by rcases mem_cons.mp w with w | w;exact e w.symm;exact q w]
theorem Nx{α:Type}(y:Wy α)(l:List α)(e:α):(Zk y (l++[e])).cc=(Zk y l).cc + y.cf e:=by
 rw[(V7 y _).cc,(V7 y l).cc,map_append,sum_append];show _ + (y.cf e + 0)=_;rw[add_zero]
theorem Jm{α:Type}(y:Wy α)(l:List α)(e:α):(Zk y (l++[e])).tt=(Zk y l).tt + y.tf e:=by
 rw[(V7 y _).tt,(V7 y l).tt,map_append,sum_append];show _ + (y.tf e + 0)=_;rw[add_zero]
theorem Ml{R:RunI}(u:Nat):R.ldS (fun _=>0) u=0:=by
 delta RunI.ldS
 generalize List.filter _ _=l
 induction l with
 | nil=>rfl
 | cons a l ih=>rw[map_cons,sum_cons,ih];rfl
theorem InvR.zero{R:RunI}(h:RunOk R):InvR R 0 (R.run 0) (fun _=>0) (fun _=>0):=by
 have hm:∀ u,u < R.n->mkA (R.run 0).ω u=(0,(R.t0:Int),0):=fun u hu=>by
  show(replicate R.n ((0:Int),(R.t0:Int),(0:Int))).getD u (0,0,0)=_;rw[getD_eq_getElem?_getD,List.getElem?_replicate,if_pos hu];rfl
 have hh:∀ u,u < R.n->(R.run 0).φ.getD u []=[]:=fun u hu=>by
  show(replicate R.n ([]:List (Nat × Int × Int))).getD u []=_;rw[getD_eq_getElem?_getD,List.getElem?_replicate,if_pos hu];rfl
 have hz:R.mkC 0=(0,(R.t0:Int),0):=by
  rw[R.mk_lt R.T0,Nat.zero_mod,Nat.zero_div];show((0:Int),(R.t0:Int) - 0,(0:Int))=_;rw[sub_zero]
 refine⟨length_replicate ..,length_replicate ..,fun u hu=>(hm u hu).trans hz.symm,fun u _=>zero_le _,fun u _=>zero_le _,fun u _=>le_refl _,fun u hu=>?_,fun u hu=>?_,fun u hu e he=>?_,fun u hu=>mem_range.mp hu,fun u hu=>?_,fun u hu=>?_,fun u hu _=>mem_range.mpr hu,fun M _ _ u _=>zero_le _⟩
 ·rw[hh u hu];rfl
 ·rw[hh u hu,hz];rfl
 ·rw[hh u hu] at he;exact mnE he
 ·rw[hh u hu];rfl
 ·show((List.range R.n).count u:Int)=_;rw[Wn nodup_range,if_pos (mem_range.mpr hu)];show(1:Int)=1 + R.ldS (fun _=>0) u;rw[Ml];rfl
theorem InvR.step{R:RunI}(h:RunOk R){j:Nat}{s:Xx}{C ri:Nat->Nat}(I:InvR R j s C ri){u:Nat}(hj:s.push[j]?=some u):∃ C' ri',InvR R (j + 1) (R.turn s u) C' ri':=by
 have hu:=I.pl u (mem_of_getElem? hj);have hjl:=(List.getElem?_eq_some_iff.mp hj).1;obtain⟨ha,hb⟩:=R.lead_lt h hu
 have hbe:R.best s.ω u=R.beN C u:=by
  delta RunI.best RunI.beN RunI.sign RunI.sgN
  rw[I.mrk _ ha,I.mrk _ hb]
 have hbl:R.beN C u < R.n:=hbe ▸ R.best_lt h hu s.ω
 have hnew:R.new s.ω u=R.mkC (R.fN C u):=by
  delta RunI.new
  rw[hbe,I.mrk _ hbl];exact R.lift_code (h.rk4 hu)
 have hin:=I.inc u hu;have hfT:R.fN C u ≤ R.T:=R.liftN_le
 have hrise:R.rise s.ω u=if C u < R.fN C u then 1 else 0:=by
  delta RunI.rise
  rw[hnew,I.mrk u hu];have:=R.cmp_code 1 hfT (I.le u hu) (r:=4) (le_refl _);refine Eq.trans this ?_;show(if R.fN C u < C u then (-1:Int) else if C u < R.fN C u then 1 else 0)=_;rw[if_neg (not_lt.mpr hin)]
 have hC':R.LeT (Yx C u (R.fN C u)):=fun v hv=>by delta Yx;split;exact hfT;exact I.le v hv
 have hCC:∀ v,v < R.n->C v ≤ Yx C u (R.fN C u) v:=fun v hv=>by delta Yx;split;rename_i q;exact q ▸ hin;exact le_refl _
 have hl:u < s.ω.length:=I.lm.symm ▸ hu;have hlh:u < s.φ.length:=I.lh.symm ▸ hu
 have pm:∀ v,v < R.n->(v ∈ R.preds u ↔ u ∈ [(R.lead v).1,(R.lead v).2]):=fun v hv=>by
  delta RunI.preds
  rw[mem_filter,decide_eq_true_eq,mem_cons,mem_singleton];exact⟨fun q=>q.2.imp Eq.symm Eq.symm,fun q=>⟨mem_range.mpr hv,q.imp Eq.symm Eq.symm⟩⟩
 have hpn:(R.preds u).Nodup:=nodup_range.filter _;have hst:R.turn s u=⟨if R.rise s.ω u=1 then s.ω.set u (R.new s.ω u) else s.ω,if R.rise s.ω u=1 then s.push++R.preds u else s.push,s.φ.set u (s.φ.getD u []++[R.ent s.ω u])⟩:=rfl;have hent:R.ent s.ω u=(R.best s.ω u,R.rise s.ω u,(R.new s.ω u).2.2 - (mkA s.ω u).2.2):=rfl;have hhd:∀ v,(s.φ.set u (s.φ.getD u []++[R.ent s.ω u])).getD v []=if v=u then s.φ.getD u []++[R.ent s.ω u] else s.φ.getD v []:=fun v=>Sa hlh
 have hl2:∀ M:Nat->Nat,R.LeT M->(∀ u,u < R.n->R.fN M u ≤ M u)->∀ v,v < R.n->Yx C u (R.fN C u) v ≤ M v:=fun M hM hp v hv=>by
  delta Yx
  split
  ·rename_i q;subst q;exact le_trans (h.fmono I.le hM (I.ls M hM hp) hv) (hp v hv)
  ·exact I.ls M hM hp v hv
 have hinc:∀ v,v < R.n->Yx C u (R.fN C u) v ≤ R.fN (Yx C u (R.fN C u)) v:=fun v hv=>by
  have:=h.fmono I.le hC' hCC hv;refine le_trans ?_ this
  delta Yx
  split
  ·rename_i q;rw[q];exact le_refl _
  ·exact I.inc v hv
 have hlt':∀ v,v < R.n->∀ e ∈ (s.φ.set u (s.φ.getD u []++[R.ent s.ω u])).getD v [],e.1 < R.n:=fun v hv e he=>by
  rw[hhd] at he;split at he
  ·rcases mem_append.mp he with he | he
   ·exact I.lt u hu e he
   ·rw[mem_singleton] at he;rw[he,hent,hbe];exact hbl
  ·exact I.lt v hv e he
 have htk:s.push.take (j + 1)=s.push.take j++[u]:=Za hj;have hdr:s.push.drop j=u::s.push.drop (j + 1):=by rw[drop_eq_getElem_cons hjl];congr 1;exact(List.getElem?_eq_some_iff.mp hj).2
 have hct:∀ v,v < R.n->(s.push.take j++[u]).count v=((s.φ.set u (s.φ.getD u []++[R.ent s.ω u])).getD v []).length:=fun v hv=>by
  rw[hhd,List.count_append,I.ct v hv,count_cons,List.count_nil,zero_add]
  by_cases e:u=v
  ·subst e;rw[if_pos (beq_self_eq_true _),if_pos rfl,length_append];rfl
  ·rw[if_neg (by rw[beq_iff_eq];exact e),if_neg fun q=>e q.symm,Nat.add_zero]
 have htt:∀ v,v < R.n->(Zk R.wy ((s.φ.set u (s.φ.getD u []++[R.ent s.ω u])).getD v [])).tt=(R.mkC (Yx C u (R.fN C u) v)).2.2:=fun v hv=>by
  rw[hhd]
  delta Yx
  by_cases e:v=u
  ·rw[if_pos e,if_pos e,Jm,I.tt u hu,hent,hnew,I.mrk u hu];show(R.mkC (C u)).2.2 + ((R.mkC (R.fN C u)).2.2 - (R.mkC (C u)).2.2)=_;rw[add_comm,sub_add_cancel]
  ·rw[if_neg e,if_neg e];exact I.tt v hv
 by_cases hlt:C u < R.fN C u
 ·rw[if_pos hlt] at hrise;rw[hrise,if_pos rfl,if_pos rfl,hnew] at hst;rw[hst];refine⟨Yx C u (R.fN C u),Yx ri u (ri u + 1),by dsimp only;rw[length_set];exact I.lm,by dsimp only;rw[length_set];exact I.lh,fun v hv=>?_,hC',hinc,fun v hv=>?_,fun v hv=>?_,htt,hlt',fun v hv=>?_,fun v hv=>?_,fun v hv=>?_,fun v hv hne=>?_,hl2⟩ <;> (try dsimp only)
  ·delta mkA
   rw[Sa hl]
   delta Yx
   split
   ·rfl
   ·exact I.mrk v hv
  ·delta Yx
   by_cases e:v=u
   ·rw[if_pos e,if_pos e];exact lt_of_le_of_lt (I.rc u hu) hlt
   ·rw[if_neg e,if_neg e];exact I.rc v hv
  ·rw[hhd]
   delta Yx
   by_cases e:v=u
   ·rw[if_pos e,if_pos e,Nx,I.cc u hu,hent,hrise];rfl
   ·rw[if_neg e,if_neg e];exact I.cc v hv
  ·rcases mem_append.mp hv with hv | hv
   ·exact I.pl v hv
   ·exact R.preds_lt hv
  ·rw[List.take_append_of_le_length hjl,htk];exact hct v hv
  ·rw[List.count_append,Int.natCast_add,I.pc v hv,Wn hpn,R.ldS_upd (f:=fun w=>(ri w:Int)) (g:=fun w=>((Yx ri u (ri u + 1) w:Nat):Int)) hu (d:=1) (fun w hw=>by delta Yx;rw[if_neg hw]) (by delta Yx;rw[if_pos rfl];rfl) v,Int.add_assoc];congr 2
   by_cases q:u ∈ [(R.lead v).1,(R.lead v).2]
   ·rw[if_pos q,if_pos ((pm v hv).mpr q)];rfl
   ·rw[if_neg q,if_neg fun w=>q ((pm v hv).mp w)];rfl
  ·rw[List.drop_append_of_le_length hjl]
   by_cases q:u ∈ [(R.lead v).1,(R.lead v).2]
   ·exact mem_append_right _ ((pm v hv).mpr q)
   ·have q1:(R.lead v).1 ≠ u:=fun e=>q (e ▸ mem_cons_self);have q2:(R.lead v).2 ≠ u:=fun e=>q (e ▸ mem_cons_of_mem _ mem_cons_self);have fs:R.fN (Yx C u (R.fN C u)) v=R.fN C v:=RunI.f_same (by delta Yx;rw[if_neg q1]) (by delta Yx;rw[if_neg q2]);rw[fs] at hne;have vu:v ≠ u:=fun e=>hne (by subst e;delta Yx;rw[if_pos rfl])
    delta Yx at hne
    rw[if_neg vu] at hne;have:=I.pe v hv hne;rw[hdr] at this;exact mem_append_left _ ((mem_cons.mp this).resolve_left vu)
 ·have hfe:R.fN C u=C u:=le_antisymm (le_of_not_lt hlt) hin
  have hCe:Yx C u (R.fN C u)=C:=by
   funext v;delta Yx;split
   ·rename_i q;rw[q,hfe]
   ·rfl
  rw[if_neg hlt] at hrise;rw[hrise,if_neg (by decide),if_neg (by decide)] at hst;rw[hst];rw[hCe] at htt;refine⟨C,ri,I.lm,by dsimp only;rw[length_set];exact I.lh,I.mrk,I.le,I.inc,I.rc,fun v hv=>?_,htt,hlt',I.pl,fun v hv=>?_,I.pc,fun v hv hne=>?_,I.ls⟩ <;> (try dsimp only)
  ·rw[hhd]
   by_cases e:v=u
   ·rw[if_pos e,Nx,I.cc u hu,hent,hrise,e];exact add_zero _
   ·rw[if_neg e];exact I.cc v hv
  ·rw[htk];exact hct v hv
  ·have:=I.pe v hv hne;rw[hdr] at this;exact(mem_cons.mp this).resolve_left fun e=>hne (e ▸ hfe)
theorem InvR.stay{R:RunI}{j:Nat}{s:Xx}{C ri:Nat->Nat}(I:InvR R j s C ri)(hj:s.push.length ≤ j):InvR R (j + 1) s C ri:=by
 refine⟨I.lm,I.lh,I.mrk,I.le,I.inc,I.rc,I.cc,I.tt,I.lt,I.pl,fun u hu=>?_,I.pc,fun u hu hne=>?_,I.ls⟩
 ·rw[take_of_length_le (le_succ_of_le hj),<- I.ct u hu,take_of_length_le hj]
 ·have:=I.pe u hu hne;rw[drop_eq_nil_of_le hj] at this;exact mnE this
theorem InvR.all{R:RunI}(h:RunOk R):∀ j,∃ C ri,InvR R j (R.run j) C ri
 | 0=>⟨_,_,InvR.zero h⟩
 | j + 1=>by
  obtain⟨C,ri,I⟩:=InvR.all h j;rw[R.run_succ];cases e:(R.run j).push[j]? with
  | none=>exact⟨C,ri,I.stay (List.getElem?_eq_none_iff.mp e)⟩
  | some u=>exact I.step h e
end
section
open PySem PySem.Spec PySem.Calls PyProof.Rows PySem.W PySem.SeqAt
theorem Op{a b:Nat}:∀ l:List Nat,(l.filter fun w=>decide (w ∈ [a,b])).length ≤ l.count a + l.count b
 | []=>zero_le _
 | x::l=>by
  haveI ih:=Op (a:=a) (b:=b) l
  rw[filter_cons,count_cons,count_cons,Nat.add_add_add_comm]
  by_cases q:x ∈ [a,b]
  ·rw[if_pos (decide_eq_true q),length_cons];refine add_le_add ih ?_;rcases mem_cons.mp q with rfl | q
   ·rw[if_pos (beq_self_eq_true _)];exact le_add_right _ _
   ·rw[mem_singleton] at q;subst q;rw[if_pos (beq_self_eq_true x)];exact le_add_left _ _
  ·rw[if_neg (by rw[decide_eq_true_eq];exact q)];exact le_trans ih (le_add_right _ _)
theorem M0{f:Nat->Int}{ao:Int}:∀ {l:List Nat},(∀ w ∈ l,f w ≤ ao)->(l.map f).sum ≤ l.length * ao
 | [],_=>by rw[map_nil,length_nil];exact Int.le_of_eq (Int.zero_mul ao).symm
 | a::l,h=>by
  rw[map_cons,sum_cons,length_cons,Int.natCast_add,Int.add_mul,add_comm];exact Int.add_le_add (M0 fun w hw=>h w (mem_cons_of_mem _ hw)) (by rw[show((1:Nat):Int) * ao=ao from one_mul ao];exact h a mem_cons_self)
theorem Pj{ao:Nat}:∀ (n:Nat) {l:List Nat},(∀ x ∈ l,x < n)->(∀ x,x < n->l.count x ≤ ao)->l.length ≤ n * ao
 | 0,[],_,_=>zero_le _
 | 0,a::l,h,_=>absurd (h a mem_cons_self) (Nat.not_lt_zero a)
 | n + 1,l,h,hc=>by
  haveI h1:=List.length_eq_countP_add_countP (p:=(· == n)) (l:=l)
  haveI h2:=Pj (ao:=ao) n (l:=l.filter fun a=>decide ¬ (a == n)=true) (fun x hx=>by
   obtain⟨q1,q2⟩:=mem_filter.mp hx;refine Nat.lt_of_le_of_ne (le_of_lt_succ (h x q1)) fun e=>?_;rw[e,beq_self_eq_true] at q2
   exact absurd q2 (by decide)) (fun x hx=>le_trans (List.Sublist.count_le x List.filter_sublist) (hc x (lt_succ_of_lt hx)))
  rw[h1,List.countP_eq_length_filter (p:=fun a=>decide ¬ (a == n)=true),Nat.add_mul,Nat.one_mul,Nat.add_comm];exact add_le_add h2 (hc n (lt_succ_self n))
theorem Gu{p q:Nat->Bool}(h:∀ x,p x=true->q x=false):∀ l:List Nat,l.countP p + l.countP q ≤ l.length
 | []=>le_refl 0
 | a::l=>by
  haveI ih:=Gu h l
  rw[countP_cons,countP_cons,length_cons,Nat.add_add_add_comm];refine add_le_add ih ?_
  by_cases e:p a=true
  ·rw[if_pos e,h a e];exact le_refl 1
  ·rw[if_neg e,zero_add];split
   ·exact le_refl 1
   ·exact zero_le 1
theorem RunOk.T12{R:RunI}(h:RunOk R):R.T ≤ 12:=by
 haveI h1:R.t0 + R.t1 ≤ 5:=le_trans (Gu (fun x e=>by
  haveI:(x:Int)=1:=eq_of_beq e
  show((x:Int) == 3)=false
  rw[this];rfl) R.τ) (h.rl ▸ h.n5.2)
 exact(by decide:∀ a ≤ 5,∀ b ≤ 5,a + b ≤ 5->(a + 1) * (b + 1) ≤ 12) R.t0 (le_trans (le_add_right ..) h1) R.t1 (le_trans (le_add_left ..) h1) h1
theorem InvR.len{R:RunI}(h:RunOk R){j:Nat}{s:Xx}{C ri:Nat->Nat}(I:InvR R j s C ri):s.push.length ≤ 125:=by
 refine le_trans (Pj (ao:=25) R.n I.pl fun u hu=>?_) (mul_le_mul_right 25 h.n5.2);refine ofNat_le.mp ?_;rw[I.pc u hu]
 haveI h2:R.ldS (fun w=>(ri w:Int)) u ≤ ((2:Nat):Int) * 12:=by
  unfold RunI.ldS;refine Int.le_trans (M0 (ao:=12) fun w hw=>?_) (Int.mul_le_mul_of_nonneg_right (ofNat_le.mpr ?_) (by decide))
  ·haveI hw:=mem_range.mp (mem_filter.mp hw).1
   exact ofNat_le.mpr (le_trans (I.rc w hw) (le_trans (I.le w hw) h.T12))
  ·refine le_trans (Op _) (add_le_add (b:=1) (d:=1) ?_ ?_) <;> rw[Wn nodup_range] <;> split <;> decide
 exact Int.add_le_add_left h2 1
structure EndR(R:RunI)(s:Xx)(C:Nat->Nat):Prop where
 le:R.LeT C
 mrk:∀ u,u < R.n->mkA s.ω u=R.mkC (C u)
 fix:∀ u,u < R.n->R.fN C u=C u
 ls:∀ M:Nat->Nat,R.LeT M->(∀ u,u < R.n->R.fN M u ≤ M u)->∀ u,u < R.n->C u ≤ M u
theorem InvR.end{R:RunI}(h:RunOk R){j:Nat}(hj:125 < j)(hj2:j ≤ 130){s:Xx}{C ri:Nat->Nat}(I:InvR R j s C ri)(hs:SOkR R j s):EndR R s C /\ s.push.length < j /\ Sk R s:=by
 haveI hl:=I.len h
 haveI hl3:s.push.length ≤ j:=le_trans hl (le_of_lt hj)
 refine⟨⟨I.le,I.mrk,fun u hu=>Classical.byContradiction fun q=>?_,I.ls⟩,lt_of_le_of_lt hl hj,fun u hu=>?_,fun u hu=>?_,fun u hu=>?_,I.lt,I.lm,I.lh,fun u=>?_⟩
 ·haveI:=I.pe u hu q
  rw[drop_eq_nil_of_le hl3] at this;exact mnE this
 ·rw[I.cc u hu];exact⟨natCast_nonneg _,ofNat_le.mpr (le_trans (I.rc u hu) (le_trans (I.le u hu) (le_trans h.T12 (by decide))))⟩
 ·rw[I.tt u hu,I.mrk u hu]
 ·rw[<- I.ct u hu,take_of_length_le hl3,I.pc u hu]
  haveI e:(((List.range R.n).filter fun w=>decide (w ∈ [(R.lead u).1,(R.lead u).2])).map fun w=>(Zk R.wy (s.φ.getD w [])).cc).sum=R.ldS (fun w=>(ri w:Int)) u:=by
   unfold RunI.ldS;congr 1;exact map_congr_left fun w hw=>I.cc w (mem_range.mp (mem_filter.mp hw).1)
  rw[e,Int.add_right_comm];rfl
 ·rw[getD_eq_getElem?_getD];cases e:s.φ[u]? with
  | none=>exact zero_le _
  | some l=>exact le_trans (hs.hl l (mem_of_getElem? e)) hj2
theorem Rj{R:RunI}(h:RunOk R){j:Nat}(hj:125 < j)(hj2:j ≤ 130):∃ C,EndR R (R.run j) C /\ (R.run j).push.length < j /\ Sk R (R.run j):=by
 obtain⟨C,ri,I⟩:=InvR.all h j;exact⟨C,I.end h hj hj2 (SOkR.run h j)⟩
end
section
open PySem PySem.Spec PySem.Calls PyProof.Rows PySem.W PySem.SeqAt
noncomputable def it(g:Nat->Nat):Nat->Nat->Nat
 | 0,u=>u
 | k + 1,u=>g (it g k u)
theorem Wh{g:Nat->Nat}{a:Nat}:∀ {b u:Nat},it g (a + b) u=it g b (it g a u)
 | 0,_=>rfl
 | b + 1,u=>congrArg g (Wh (b:=b))
theorem Oj{g:Nat->Nat}{n:Nat}(hg:∀ u,u < n->g u < n):∀ {k u:Nat},u < n->it g k u < n
 | 0,_,h=>h
 | k + 1,_,h=>hg _ (Oj hg (k:=k) h)
theorem Ju{f:Nat->Nat}{n:Nat}(h:∀ i,f i < n):∃ i j,i < j /\ j ≤ n /\ f i=f j:=by
 refine Classical.byContradiction fun q=>?_;have nd:((List.range (n + 1)).map f).Nodup:=pairwise_map.mpr (List.Pairwise.imp_of_mem (fun {a b} ha hb hab e=>q ⟨a,b,hab,le_of_lt_succ (mem_range.mp hb),e⟩) List.pairwise_lt_range);have:=Pj (ao:=1) n (l:=(List.range (n + 1)).map f) (fun x hx=>by obtain⟨i,_,rfl⟩:=mem_map.mp hx;exact h i) (fun x _=>by rw[Wn nd];split <;> decide);rw[length_map,length_range,Nat.mul_one] at this;exact Nat.not_succ_le_self n this
theorem Lv{g:Nat->Nat}{n:Nat}(hn:n ≤ 5)(hg:∀ u,u < n->g u < n){u:Nat}(hu:u < n):∃ d,d < 5 /\ it g (d + 1) (it g 8 u)=it g 8 u:=by
 obtain⟨i,j,h1,h2,h3⟩:=Ju (f:=fun k=>it g k u) (n:=n) fun k=>Oj hg hu;have hj:=le_trans h2 hn;obtain⟨d,rfl⟩:=Nat.exists_eq_add_of_lt h1;refine⟨d,lt_of_lt_of_le (lt_succ_of_le (le_add_left d i)) hj,?_⟩;have hi:i ≤ 8:=le_trans (le_of_lt h1) (le_trans hj (by decide));obtain⟨e,he⟩:=Nat.exists_eq_add_of_le hi;have h3:it g i u=it g (i + d + 1) u:=h3;rw[he,<- Wh,show i + e + (d + 1)=(i + d + 1) + e by rw[add_assoc,Nat.add_comm e,<- add_assoc,<- add_assoc],Wh,<- h3,<- Wh]
theorem Kb{R:RunI}{r s c d:Nat}(hr:r=1 \/ r=3)(hrs:r ≤ s)(hs:s ≤ 4)(hd:d < R.T)(h:R.liftN s c ≤ d):R.trN r c ≤ R.trN r d /\ (s=r->R.trN r c < R.trN r d):=by
 have hc:¬ R.T ≤ c:=fun q=>by
  rw[show R.liftN s c=R.T from if_pos q] at h;exact lt_irrefl _ (lt_of_lt_of_le hd h)
 delta RunI.liftN at h
 rw[if_neg hc] at h;have div:∀ {a b:Nat},a ≤ b->a / R.K ≤ b / R.K:=fun q=>Nat.div_le_div_right q;have h5:=(by decide:∀ s ≤ 4,s=0 \/ s=1 \/ s=2 \/ s=3 \/ s=4) s hs;rcases hr with rfl | rfl
 ·show c / R.K ≤ d / R.K /\ (s=1->c / R.K < d / R.K);rcases h5 with rfl | rfl | rfl | rfl | rfl
  ·exact absurd hrs (by decide)
  ·have:=(Nat.le_div_iff_mul_le R.K0).mpr h;exact⟨le_of_succ_le this,fun _=>this⟩
  ·exact⟨(Nat.le_div_iff_mul_le R.K0).mpr h,fun q=>absurd q (by decide)⟩
  ·exact⟨div (le_of_succ_le h),fun q=>absurd q (by decide)⟩
  ·exact⟨div h,fun q=>absurd q (by decide)⟩
 ·show c ≤ d /\ (s=3->c < d);rcases h5 with rfl | rfl | rfl | rfl | rfl
  ·exact absurd hrs (by decide)
  ·exact absurd hrs (by decide)
  ·exact absurd hrs (by decide)
  ·exact⟨le_of_succ_le h,fun _=>h⟩
  ·exact⟨h,fun q=>absurd q (by decide)⟩
structure Go(R:RunI)(C:Nat->Nat)(g:Nat->Nat):Prop where
 own:∀ u,u < R.n->R.ρ.getD u 0=1->g u=R.beN C u
 oth:∀ u,u < R.n->∃ k,g u=Zn (R.lead u) k
namespace Go
variable{R:RunI}{s:Xx}{C g:Nat->Nat}(G:Go R C g)(h:RunOk R)(E:EndR R s C)
include G h
theorem lt:∀ u,u < R.n->g u < R.n:=fun u hu=>by
 obtain⟨k,e⟩:=G.oth u hu;rw[e];exact Vk (R.lead_lt h hu)
include E
theorem step{u:Nat}(hu:u < R.n)(hk:C u < R.T):C (g u) < R.T /\ R.liftN (R.rk u) (C (g u)) ≤ C u:=by
 have h2:R.liftN (R.rk u) (C (g u)) ≤ C u:=by
  rcases h.side hu with s | s
  ·rw[G.own u hu s];exact le_of_eq (E.fix u hu)
  ·obtain⟨k,e⟩:=G.oth u hu;rw[e];exact le_trans ((h.best E.le hu).oth s k) (le_of_eq (E.fix u hu))
 refine⟨lt_of_not_le fun q=>?_,h2⟩;rw[show R.liftN (R.rk u) (C (g u))=R.T from if_pos q] at h2;exact lt_irrefl _ (lt_of_lt_of_le hk h2)
theorem on:∀ {k u:Nat},u < R.n->C u < R.T->it g k u < R.n /\ C (it g k u) < R.T
 | 0,_,hu,hk=>⟨hu,hk⟩
 | k + 1,_,hu,hk=>by
  obtain⟨h1,h2⟩:=on (k:=k) hu hk;exact⟨G.lt h _ h1,(G.step h E h1 h2).1⟩
theorem low{u:Nat}(hu:u < R.n)(hk:C u < R.T){m:Nat}(h1:∃ k,k < 8 /\ m=R.ψ.getD (it g k (it g 8 u)) 0)(h2:∀ k,k < 8->m ≤ R.ψ.getD (it g k (it g 8 u)) 0):m % 2=R.who:=by
 refine Classical.byContradiction fun hm=>?_;obtain⟨d,hd,hp⟩:=Lv h.n5.2 (G.lt h) hu;obtain⟨k0,hk0,e0⟩:=h1
 have on:∀ k,it g k (it g 8 u) < R.n /\ C (it g k (it g 8 u)) < R.T:=fun k=>by
  obtain⟨q1,q2⟩:=G.on h E (k:=8) hu hk;exact G.on h E q1 q2
 have per:∀ k,it g (d + 1 + k) (it g 8 u)=it g k (it g 8 u):=fun k=>by rw[Wh,hp]
 generalize it g 8 u=v at *
 have all:∀ k,m ≤ R.ψ.getD (it g k v) 0:=fun k=>by
  induction k using Nat.strongRecOn with
  | _ k ih=>
   rcases lt_or_ge k 8 with q | q
   ·exact h2 k q
   ·obtain⟨e,rfl⟩:=Nat.exists_eq_add_of_le (le_trans (Nat.succ_le_of_lt (lt_of_lt_of_le hd (by decide:5 ≤ 8))) q);rw[per e];exact ih e (Nat.lt_add_of_pos_left (succ_pos d))
 have hm4:m < 4:=e0 ▸ h.line_lt (on k0).1;have hr:m + R.who=1 \/ m + R.who=3:=(by decide:∀ m < 4,∀ w < 2,¬ m % 2=w->m + w=1 \/ m + w=3) m hm4 R.who h.hw hm
 have st:∀ k,R.trN (m + R.who) (C (it g (k + 1) v)) ≤ R.trN (m + R.who) (C (it g k v)) /\ (R.ψ.getD (it g k v) 0=m->R.trN (m + R.who) (C (it g (k + 1) v)) < R.trN (m + R.who) (C (it g k v))):=fun k=>by
  obtain⟨q1,q2⟩:=on k;have q:=Kb hr (by rw[h.rk_eq q1];exact add_le_add_right (all k) _) (h.rk4 q1) q2 (G.step h E q1 q2).2;exact⟨q.1,fun e=>q.2 (by rw[h.rk_eq q1,e])⟩
 have dn:∀ e,R.trN (m + R.who) (C (it g (k0 + 1 + e) v)) ≤ R.trN (m + R.who) (C (it g (k0 + 1) v)):=fun e=>by
  induction e with
  | zero=>exact le_refl _
  | succ e ih=>exact le_trans (st _).1 ih
 have e1:=dn d;rw[add_right_comm,show k0 + d + 1=d + 1 + k0 by rw[Nat.add_comm k0,add_right_comm],per k0] at e1;exact lt_irrefl _ (lt_of_lt_of_le ((st k0).2 e0.symm) e1)
end Go
theorem Ua{n:Nat}{ψ gl:List Nat}{g:Nat->Nat}(hg:∀ u,u < n->g u < n)(h0:∀ u,u < n->gl.getD u 0=g u):∀ t u,u < n->(Wa n (ψ,gl) t).2.getD u 0=it g (2 ^ t) u /\ (∃ k,k < 2 ^ t /\ (Wa n (ψ,gl) t).1.getD u 0=ψ.getD (it g k u) 0) /\ ∀ k,k < 2 ^ t->(Wa n (ψ,gl) t).1.getD u 0 ≤ ψ.getD (it g k u) 0
 | 0,u,hu=>⟨h0 u hu,⟨0,one_pos,rfl⟩,fun k hk=>by obtain rfl:=Nat.lt_one_iff.mp hk;exact le_refl _⟩
 | t + 1,u,hu=>by
  obtain⟨a1,⟨k1,a2,a3⟩,a4⟩:=Ua hg h0 t u hu;have hv:it g (2 ^ t) u < n:=Oj hg hu;obtain⟨b1,⟨k2,b2,b3⟩,b4⟩:=Ua hg h0 t _ hv;rw[Uo];have e1:(Ni n (Wa n (ψ,gl) t)).1.getD u 0=Rp ((Wa n (ψ,gl) t).1.getD u 0) ((Wa n (ψ,gl) t).1.getD (it g (2 ^ t) u) 0):=(Zq hu).trans (by rw[a1]);have e2:(Ni n (Wa n (ψ,gl) t)).2.getD u 0=(Wa n (ψ,gl) t).2.getD (it g (2 ^ t) u) 0:=(Zq hu).trans (by rw[a1]);have ep:2 ^ (t + 1)=2 ^ t + 2 ^ t:=by rw[Nat.pow_succ,Nat.mul_two]
  rw[e1,e2,b1,ep,Wh];refine⟨rfl,?_,fun k hk=>?_⟩
  ·delta Rp
   split
   ·exact⟨2 ^ t + k2,Nat.add_lt_add_left b2 _,by rw[Wh];exact b3⟩
   ·exact⟨k1,lt_of_lt_of_le a2 (le_add_right ..),a3⟩
  ·have m1:∀ a b:Nat,Rp a b ≤ a /\ Rp a b ≤ b:=fun a b=>by
    delta Rp;split
    ·rename_i q;exact⟨le_of_lt q,le_refl _⟩
    ·rename_i q;exact⟨le_refl _,le_of_not_lt q⟩
   rcases lt_or_ge k (2 ^ t) with q | q
   ·exact le_trans (m1 ..).1 (a4 k q)
   ·obtain⟨e,rfl⟩:=Nat.exists_eq_add_of_le q;rw[Wh];exact le_trans (m1 ..).2 (b4 e (Nat.lt_of_add_lt_add_left hk))
theorem Rs{ax:List (Nat × Nat)}{oth:List Nat}{code n:Nat}{g0:List Nat}(ho:∀ x ∈ oth,x < n)(h0:g0.length=n){u:Nat}:∀ t,t ≤ oth.length->(u ∉ oth->(goF ax oth code g0 t).getD u 0=g0.getD u 0) /\ ((goF ax oth code g0 t).getD u 0=g0.getD u 0 \/ ∃ k,(goF ax oth code g0 t).getD u 0=Zn (ax.getD u (0,0)) k)
 | 0,_=>⟨fun _=>rfl,.inl rfl⟩
 | t + 1,ht=>by
  obtain⟨h1,h2⟩:=Rs ho h0 t (le_of_succ_le ht);have hm:=mem_of_getElem? (Z8 0 (show t < oth.length from ht));rw[U6,Sa (by rw[goF_len,h0];exact ho _ hm)]
  by_cases e:u=oth.getD t 0
  ·rw[if_pos e];exact⟨fun q=>absurd (e ▸ hm) q,.inr ⟨_,by rw[e]⟩⟩
  ·rw[if_neg e];exact⟨h1,h2⟩
theorem RunOk.kd{R:RunI}(h:RunOk R){u:Nat}(hu:u < R.n):(R.ρ.getD u 0=1 ↔ R.kds.getD u 0=1 + (R.who:Int)) /\ (R.kds.getD u 0=1 \/ R.kds.getD u 0=2):=by
 have hk:=h.k2 _ (mem_of_getElem? (Z8 0 (h.kl.symm ▸ hu)));refine⟨?_,hk⟩
 have e:R.ρ.getD u 0=(3 - 2 * R.kds.getD u 0) * (1 - 2 * (R.who:Int)):=by
  delta RunI.ρ
  rw[getD_eq_getElem?_getD,getElem?_map,Z8 0 (h.kl.symm ▸ hu)];rfl
 rw[e];have hw:R.who=0 \/ R.who=1:=(by decide:∀ w < 2,w=0 \/ w=1) R.who h.hw;rcases hk with q | q <;> rcases hw with w | w <;> rw[q,w] <;> decide
theorem EndR.keep{R:RunI}{s:Xx}{C:Nat->Nat}(E:EndR R s C){u:Nat}(hu:u < R.n):(mkA s.ω u).2.2=0 ↔ C u < R.T:=by
 rw[E.mrk u hu]
 by_cases q:C u < R.T
 ·rw[R.mk_lt q];exact⟨fun _=>q,fun _=>rfl⟩
 ·rw[R.mk_T (le_of_not_lt q)];exact⟨fun e=>absurd (show(1:Int)=0 from e) (by decide),fun w=>absurd w q⟩
theorem EndR.bad{R:RunI}{s:Xx}{C:Nat->Nat}(h:RunOk R)(E:EndR R s C){pk:List Nat}(hpk:pk=(List.range R.n).map (R.pick s.ω))(code:Nat):J0 s.ω R.who R.n (Ng R.who R.kds R.ψ R.ax pk R.n code)=[]:=by
 refine List.filter_eq_nil_iff.mpr fun u hu q=>?_;have hu:=mem_range.mp hu;rw[and_eq_true,beq_iff_eq,bne_iff_ne] at q;obtain⟨q1,q2⟩:=q;have hk:=(E.keep hu).mp q1;refine q2 (congrArg Nat.cast ?_);have hol:∀ x ∈ Vm R.kds R.who R.n,x < R.n:=fun x hx=>mem_range.mp (mem_filter.mp hx).1;have hg0:(Xq R.ax pk R.n).length=R.n:=by delta Xq;rw[length_map,length_range]
 have hs:∀ v,v < R.n->(Xq R.ax pk R.n).getD v 0=R.beN C v:=fun v hv=>by
  obtain⟨ha,hb⟩:=R.lead_lt h hv
  delta Xq
  rw[Zq hv];rw[hpk,Zq hv]
  delta RunI.pick RunI.sign RunI.beN RunI.sgN
  rw[E.mrk _ ha,E.mrk _ hb];rfl
 let g:Nat->Nat:=fun v=>(goF R.ax (Vm R.kds R.who R.n) code (Xq R.ax pk R.n) (Vm R.kds R.who R.n).length).getD v 0
 have G:Go R C g:=⟨fun v hv s=>?_,fun v hv=>?_⟩
 ·obtain⟨d1,⟨k,d2,d3⟩,d4⟩:=Ua (n:=R.n) (ψ:=R.ψ) (gl:=goF R.ax (Vm R.kds R.who R.n) code (Xq R.ax pk R.n) (Vm R.kds R.who R.n).length) (g:=g) (G.lt h) (fun _ _=>rfl) 3 _ (Oj (G.lt h) (k:=8) hu);have c1:=(Ua (n:=R.n) (ψ:=R.ψ) (gl:=goF R.ax (Vm R.kds R.who R.n) code (Xq R.ax pk R.n) (Vm R.kds R.who R.n).length) (g:=g) (G.lt h) (fun _ _=>rfl) 3 u hu).1
  delta Ng
  rw[c1];exact G.low h E hu hk ⟨k,d2,d3⟩ d4
 ·refine((Rs hol hg0 _ (le_refl _)).1 fun q=>?_).trans (hs v hv);have:=(mem_filter.mp q).2;rw[bne_iff_ne] at this;exact this ((h.kd hv).1.mp s)
 ·rcases(Rs (code:=code) (ax:=R.ax) (u:=v) hol hg0 _ (le_refl _)).2 with q | q
  ·exact⟨_,q.trans (hs v hv)⟩
  ·exact q
end
section
def ltU(c:Nat)(x y:Nat->Nat):Prop:=∃ k,k ≤ c /\ x k < y k /\ ∀ j,j < k->x j=y j
def leU(c:Nat)(x y:Nat->Nat):Prop:=ltU c x y \/ ∀ j,j ≤ c->x j=y j
theorem Mj{c:Nat}{x y z:Nat->Nat}(h:ltU c x y)(g:leU c y z):ltU c x z:=by
 obtain⟨k,h1,h2,h3⟩:=h;rcases g with⟨l,g1,g2,g3⟩ | g
 ·rcases Nat.lt_trichotomy k l with q | q | q
  ·exact⟨k,h1,(g3 k q) ▸ h2,fun j hj=>(h3 j hj).trans (g3 j (lt_trans hj q))⟩
  ·subst q;exact⟨k,h1,lt_trans h2 g2,fun j hj=>(h3 j hj).trans (g3 j hj)⟩
  ·exact⟨l,g1,(h3 l q).symm ▸ g2,fun j hj=>(h3 j (lt_trans hj q)).trans (g3 j hj)⟩
 ·exact⟨k,h1,(g k h1) ▸ h2,fun j hj=>(h3 j hj).trans (g j (le_trans (le_of_lt hj) h1))⟩
theorem R7{c:Nat}{x y z:Nat->Nat}(h:leU c x y)(g:leU c y z):leU c x z:=by
 rcases h with h | h
 ·exact .inl (Mj h g)
 ·rcases g with⟨l,g1,g2,g3⟩ | g
  ·exact .inl ⟨l,g1,(h l g1).symm ▸ g2,fun j hj=>(h j (le_trans (le_of_lt hj) g1)).trans (g3 j hj)⟩
  ·exact .inr fun j hj=>(h j hj).trans (g j hj)
theorem K9{c:Nat}{x y:Nat->Nat}(h:ltU c x y)(g:leU c y x):False:=by
 obtain⟨k,_,h2,_⟩:=Mj h g;exact lt_irrefl _ h2
theorem Og{c d:Nat}{x y:Nat->Nat}(hc:c ≤ d)(h:leU d x y):leU c x y:=by
 rcases h with⟨k,h1,h2,h3⟩ | h
 ·rcases lt_or_ge c k with q | q
  ·exact .inr fun j hj=>h3 j (lt_of_le_of_lt hj q)
  ·exact .inl ⟨k,q,h2,h3⟩
 ·exact .inr fun j hj=>h j (le_trans hj hc)
def upC(c N:Nat)(x:Nat->Nat):Nat->Nat:=fun j=>if j=c then x j + N else x j
theorem Nv{c N l:Nat}{x y:Nat->Nat}(h:ltU l x y):ltU l (upC c N x) (upC c N y):=by
 obtain⟨k,h1,h2,h3⟩:=h;refine⟨k,h1,?_,fun j hj=>?_⟩ <;> unfold upC
 ·split
  ·exact Nat.add_lt_add_right h2 N
  ·exact h2
 ·rw[h3 j hj]
theorem Jj{c N l:Nat}{x y:Nat->Nat}(h:leU l x y):leU l (upC c N x) (upC c N y):=by
 rcases h with h | h
 ·exact .inl (Nv h)
 ·exact .inr fun j hj=>by unfold upC;rw[h j hj]
structure Bd where
 n:Nat
 ld:Nat->Bool->Nat
 ln:Nat->Nat
 ow:Nat->Nat
 hl:∀ u k,u < n->ld u k < n
 hw:∀ u,ow u < 2
def Bd.Ok(ao:Bd)(i u:Nat)(x y:Nat->Nat):Prop:=if ao.ln u % 2=i then leU (ao.ln u) x y else ltU (ao.ln u) x y
theorem Bd.Ok.lt{ao:Bd}{i u:Nat}{x y:Nat->Nat}(h:ltU (ao.ln u) x y):ao.Ok i u x y:=by
 unfold Bd.Ok;split
 ·exact .inl h
 ·exact h
theorem Bd.Ok.add{ao:Bd}{i u c N:Nat}{x y:Nat->Nat}(h:ao.Ok i u x y):ao.Ok i u (upC c N x) (upC c N y):=by
 unfold Bd.Ok at h ⊢;split at h
 ·rename_i q;refine(if_pos q).mpr ?_;exact Jj h
 ·rename_i q;refine(if_neg q).mpr ?_;exact Nv h
theorem Bd.Ok.top{ao:Bd}{i u c:Nat}{x y:Nat->Nat}(hc:c ≤ ao.ln u)(h:x c < y c)(hx:∀ j,j < c->x j=0)(hy:∀ j,j < c->y j=0):ao.Ok i u x y:=
 .lt ⟨c,hc,h,fun j hj=>(hx j hj).trans (hy j hj).symm⟩
structure PM(ao:Bd)(S:Nat->Prop)(p i:Nat)(W:Nat->Prop)(m:Nat->Nat->Nat):Prop where
 sub:∀ u,W u->S u
 mine:∀ u,W u->ao.ow u=i->∃ k,W (ao.ld u k) /\ ao.Ok i u (m (ao.ld u k)) (m u)
 their:∀ u,W u->ao.ow u ≠ i->∀ k,S (ao.ld u k)->W (ao.ld u k) /\ ao.Ok i u (m (ao.ld u k)) (m u)
 zero:∀ u,W u->∀ c,c < p->m u c=0
structure Sg(ao:Bd)(S:Nat->Prop)(p:Nat):Prop where
 lt:∀ u,S u->u < ao.n
 out:∀ u,S u->∃ k,S (ao.ld u k)
 ln:∀ u,S u->p ≤ ao.ln u
def Won(ao:Bd)(S:Nat->Prop)(p:Nat):Prop:=∃ (W:Nat->Nat->Prop) (m:Nat->Nat->Nat->Nat),(∀ u,S u->W 0 u \/ W 1 u) /\ PM ao S p 0 (W 0) (m 0) /\ PM ao S p 1 (W 1) (m 1)
theorem bdd(f:Nat->Nat):∀ n,∃ N,∀ u,u < n->f u < N
 | 0=>⟨0,fun u h=>absurd h (Nat.not_lt_zero u)⟩
 | n + 1=>by
  obtain⟨N,h⟩:=bdd f n;refine⟨N + f n + 1,fun u hu=>?_⟩;rcases Nat.lt_succ_iff_lt_or_eq.mp hu with q | q
  ·exact lt_of_lt_of_le (h u q) (le_trans (le_add_right _ _) (le_succ _))
  ·subst q;exact lt_succ_of_le (le_add_left _ _)
def att(ao:Bd)(S:Nat->Prop)(j:Nat)(T:Nat->Prop):Nat->Nat->Prop
 | 0,u=>T u /\ S u
 | k + 1,u=>att ao S j T k u \/ (S u /\ (ao.ow u=j->∃ b,att ao S j T k (ao.ld u b)) /\ (ao.ow u ≠ j->∀ b,S (ao.ld u b)->att ao S j T k (ao.ld u b)))
theorem Qv{ao:Bd}{S T:Nat->Prop}{j u:Nat}{k:Nat}(h:att ao S j T k u):∀ m,att ao S j T (k + m) u
 | 0=>h
 | m + 1=>.inl (Qv h m)
theorem Lb{ao:Bd}{S T:Nat->Prop}{j u k m:Nat}(h:att ao S j T k u)(hk:k ≤ m):att ao S j T m u:=by
 have:=Qv h (m - k);rwa [Nat.add_sub_cancel' hk] at this
theorem Jb{ao:Bd}{S T:Nat->Prop}{j u:Nat}:∀ {k},att ao S j T k u->S u
 | 0,h=>h.2
 | k + 1,h=>h.elim (fun h=>Jb h) (fun h=>h.1)
theorem Qf{P:Nat->Prop}(h:∃ k,P k):∃ k,P k /\ ∀ j,j < k->¬ P j:=by
 obtain⟨k,hk⟩:=h
 induction k using Nat.strongRecOn with
 | _ k ih=>
  by_cases q:∃ j,j < k /\ P j
  ·obtain⟨j,h1,h2⟩:=q;exact ih j h1 h2
  ·exact⟨k,hk,fun j h1 h2=>q ⟨j,h1,h2⟩⟩
open Classical in
theorem Zv(ao:Bd)(S T:Nat->Prop)(j:Nat):∃ (A:Nat->Prop) (d:Nat->Nat),(∀ u,S u->T u->A u) /\ (∀ u,A u->S u) ∧
  (∀ u,A u->¬ T u->(ao.ow u=j->∃ k,A (ao.ld u k) /\ d (ao.ld u k) < d u) /\ (ao.ow u ≠ j->∀ k,S (ao.ld u k)->A (ao.ld u k) /\ d (ao.ld u k) < d u)) ∧
  (∀ u,S u->¬ A u->(ao.ow u=j->∀ k,¬ A (ao.ld u k)) /\ (ao.ow u ≠ j->∃ k,S (ao.ld u k) /\ ¬ A (ao.ld u k))):=by
 have key:∃ d:Nat->Nat,∀ u,(∃ k,att ao S j T k u)->att ao S j T (d u) u /\ ∀ l,l < d u->¬ att ao S j T l u:=by
  refine⟨fun u=>if h:∃ k,att ao S j T k u then Classical.choose (Qf h) else 0,fun u h=>?_⟩;have e:(if h:∃ k,att ao S j T k u then Classical.choose (Qf h) else 0)=Classical.choose (Qf h):=dif_pos h;have q:=Classical.choose_spec (Qf h);rw[<- e] at q;exact q
 obtain⟨d,hd⟩:=key;have dle:∀ u k,att ao S j T k u->d u ≤ k:=fun u k h=>not_lt.mp fun q=>(hd u ⟨k,h⟩).2 k q h;refine⟨fun u=>∃ k,att ao S j T k u,d,fun u h1 h2=>⟨0,h2,h1⟩,fun u ⟨k,h⟩=>Jb h,fun u hu ht=>?_,fun u hs hn=>⟨fun ho k ⟨l,h⟩=>hn ⟨l + 1,.inr ⟨hs,fun _=>⟨k,h⟩,fun q=>absurd ho q⟩⟩,fun ho=>?_⟩⟩
 ·obtain⟨h1,h2⟩:=hd u hu;rcases e:d u with _ | k
  ·rw[e] at h1;exact absurd h1.1 ht
  ·rw[e] at h1 h2;rcases h1 with h1 | ⟨hs,h3,h4⟩
   ·exact absurd h1 (h2 k (lt_succ_self k))
   ·refine⟨fun ho=>?_,fun ho b hb=>?_⟩
    ·obtain⟨b,h5⟩:=h3 ho;exact⟨b,⟨k,h5⟩,lt_succ_of_le (dle _ _ h5)⟩
    ·exact⟨⟨k,h4 ho b hb⟩,lt_succ_of_le (dle _ _ (h4 ho b hb))⟩
 ·refine Classical.byContradiction fun q=>hn ?_;have q':∀ b,S (ao.ld u b)->∃ k,att ao S j T k (ao.ld u b):=fun b hb=>Classical.byContradiction fun r=>q ⟨b,hb,r⟩
  have bd:∀ b,∃ k,S (ao.ld u b)->att ao S j T k (ao.ld u b):=fun b=>by
   by_cases r:S (ao.ld u b)
   ·obtain⟨k,h⟩:=q' b r;exact⟨k,fun _=>h⟩
   ·exact⟨0,fun h=>absurd h r⟩
  obtain⟨k1,h1⟩:=bd false;obtain⟨k2,h2⟩:=bd true;refine⟨k1 + k2 + 1,.inr ⟨hs,fun h=>absurd h ho,fun _ b hb=>?_⟩⟩;cases b with
  | false=>exact Lb (h1 hb) (le_add_right _ _)
  | true=>exact Lb (h2 hb) (le_add_left _ _)
noncomputable def H2(n:Nat)(S:Nat->Prop):Nat:=(List.range n).countP fun u=>@decide (S u) (Classical.propDecidable _)
theorem Uq{α:Type}{p q:α->Bool}(h:∀ x,p x=true->q x=true){a:α}(hp:p a=false)(hq:q a=true):∀ {l:List α},a ∈ l->l.countP p < l.countP q
 | b::l,hm=>by
  rcases mem_cons.mp hm with e | hm
  ·subst e;rw[List.countP_cons_of_neg (by rw[hp];exact Bool.noConfusion),List.countP_cons_of_pos hq];exact lt_succ_of_le (List.countP_mono_left fun x _=>h x)
  ·have:=Uq h hp hq hm;rw[countP_cons,countP_cons];refine Nat.add_lt_add_of_lt_of_le this ?_
   by_cases e:p b=true
   ·rw[if_pos e,if_pos (h b e)];exact le_refl _
   ·rw[if_neg e];exact zero_le _
open Classical in
theorem Ot{n:Nat}{S T:Nat->Prop}(h:∀ u,S u->T u){a:Nat}(ha:a < n)(hs:¬ S a)(ht:T a):H2 n S < H2 n T:=
 Uq (a:=a) (fun x hx=>decide_eq_true (h x (of_decide_eq_true hx))) (decide_eq_false hs) (decide_eq_true ht) (mem_range.mpr ha)
theorem Won.swap{ao:Bd}{S:Nat->Prop}{p i j:Nat}(hi:i < 2)(hj:j=1 - i){Wi Wj:Nat->Prop}{mi mj:Nat->Nat->Nat}(hc:∀ u,S u->Wi u \/ Wj u)(h1:PM ao S p i Wi mi)(h2:PM ao S p j Wj mj):Won ao S p:=by
 rcases(by omega:i=0 \/ i=1) with e | e
 ·subst e;subst hj;exact⟨fun i=>if i=0 then Wi else Wj,fun i=>if i=0 then mi else mj,hc,h1,h2⟩
 ·subst e;subst hj;exact⟨fun i=>if i=0 then Wj else Wi,fun i=>if i=0 then mj else mi,fun u h=>(hc u h).symm,h2,h1⟩
theorem Won.get{ao:Bd}{S:Nat->Prop}{p i j:Nat}(hi:i < 2)(hj:j=1 - i)(h:Won ao S p):∃ Wi Wj mi mj,(∀ u,S u->Wi u \/ Wj u) /\ PM ao S p i Wi mi /\ PM ao S p j Wj mj:=by
 obtain⟨W,m,h1,h2,h3⟩:=h;rcases(by omega:i=0 \/ i=1) with e | e
 ·subst e;subst hj;exact⟨_,_,_,_,h1,h2,h3⟩
 ·subst e;subst hj;exact⟨_,_,_,_,fun u h=>(h1 u h).symm,h3,h2⟩
open Classical in
theorem Nq{ao:Bd}{p:Nat}(ih:∀ S,Sg ao S (p + 1)->Won ao S (p + 1)):∀ N S,H2 ao.n S ≤ N->Sg ao S p->Won ao S p:=by
 intro N
 induction N with
 | zero=>
  intro S hN hS
  have no:∀ u,¬ S u:=fun u hu=>by
   have:=Ot (n:=ao.n) (S:=fun _=>False) (T:=S) (fun _ h=>h.elim) (hS.lt u hu) id hu;exact Nat.not_lt_zero _ (lt_of_lt_of_le this hN)
  exact⟨fun _ _=>False,fun _ _ _=>0,fun u h=>absurd h (no u),⟨fun _ h=>h.elim,fun _ h=>h.elim,fun _ h=>h.elim,fun _ h=>h.elim⟩,⟨fun _ h=>h.elim,fun _ h=>h.elim,fun _ h=>h.elim,fun _ h=>h.elim⟩⟩
 | succ N ihN=>
  intro S hN hS;have hi:p % 2 < 2:=mod_lt _ (by decide);generalize hip:p % 2=i at hi;obtain⟨A,d,a1,a2,a3,a4⟩:=Zv ao S (fun u=>ao.ln u=p) i
  obtain⟨Wi,Wj,mi,mj,h1,h2,h3⟩:=(ih (fun u=>S u /\ ¬ A u) ⟨fun u h=>hS.lt u h.1,fun u h=>by
   by_cases ho:ao.ow u=i
   ·obtain⟨k,hk⟩:=hS.out u h.1;exact⟨k,hk,(a4 u h.1 h.2).1 ho k⟩
   ·exact(a4 u h.1 h.2).2 ho,fun u h=>Nat.lt_of_le_of_ne (hS.ln u h.1) fun e=>h.2 (a1 u h.1 e.symm)⟩).get (i:=i) (j:=1 - i) hi rfl
  by_cases hj:∃ u,Wj u
  ·obtain⟨u0,hu0⟩:=hj;obtain⟨C,e,b1,b2,b3,b4⟩:=Zv ao S Wj (1 - i)
   obtain⟨Vi,Vj,ni,nj,g1,g2,g3⟩:=(ihN (fun u=>S u /\ ¬ C u) (le_of_lt_succ (lt_of_lt_of_le (Ot (a:=u0) (fun u h=>h.1) (hS.lt _ (h3.sub _ hu0).1) (fun h=>h.2 (b1 u0 (h3.sub _ hu0).1 hu0)) (h3.sub _ hu0).1) hN)) ⟨fun u h=>hS.lt u h.1,fun u h=>by
    by_cases ho:ao.ow u=1 - i
    ·obtain⟨k,hk⟩:=hS.out u h.1;exact⟨k,hk,(b4 u h.1 h.2).1 ho k⟩
    ·exact(b4 u h.1 h.2).2 ho,fun u h=>hS.ln u h.1⟩).get (i:=i) (j:=1 - i) hi rfl
   obtain⟨M,hM⟩:=bdd e ao.n
   let m:Nat->Nat->Nat:=fun u=>if Wj u then mj u else if C u then (fun c=>if c=p then 1 + e u else 0) else upC p (M + 1) (nj u)
   have mW:∀ u,Wj u->m u=mj u:=fun u h=>if_pos h;have mC:∀ u,¬ Wj u->C u->m u=fun c=>if c=p then 1 + e u else 0:=fun u h g=>(if_neg h).trans (if_pos g)
   have mV:∀ u,¬ C u->S u->m u=upC p (M + 1) (nj u):=fun u h g=>(if_neg fun q=>h (b1 u g q)).trans (if_neg h)
   have mz:∀ u,C u \/ Vj u->∀ c,c < p->m u c=0:=fun u hu c hc=>by
    by_cases q:Wj u
    ·rw[mW u q];exact h3.zero u q c (lt_succ_of_lt hc)
    ·by_cases q2:C u
     ·rw[mC u q q2];exact if_neg (ne_of_lt hc)
     ·have hv:=hu.resolve_left q2;rw[mV u q2 (g3.sub u hv).1];exact(if_neg (ne_of_lt hc)).trans (g3.zero u hv c hc)
   have mt:∀ u,C u->m u p < M + 1:=fun u hu=>by
    by_cases q:Wj u
    ·rw[mW u q,h3.zero u q p (lt_succ_self p)];exact succ_pos _
    ·rw[mC u q hu];show(if p=p then 1 + e u else 0) < _;rw[if_pos rfl,Nat.add_comm];exact Nat.succ_lt_succ (hM u (hS.lt u (b2 u hu)))
   have st:∀ u v,C u->¬ Wj u->C v->e v < e u->ao.Ok (1 - i) u (m v) (m u):=fun u v hu hw hv he=>by
    refine .top (c:=p) (hS.ln u (b2 u hu)) ?_ (mz v (.inl hv)) (mz u (.inl hu));rw[mC u hw hu];show _ < if p=p then 1 + e u else 0
    rw[if_pos rfl]
    by_cases q:Wj v
    ·rw[mW v q,h3.zero v q p (lt_succ_self p),Nat.add_comm];exact succ_pos _
    ·rw[mC v q hv];show(if p=p then 1 + e v else 0) < _;rw[if_pos rfl];exact Nat.add_lt_add_left he 1
   have sv:∀ u v,Vj u->¬ C u->C v->ao.Ok (1 - i) u (m v) (m u):=fun u v hu hc hv=>by
    have hs:=(g3.sub u hu).1;refine .top (c:=p) (hS.ln u hs) ?_ (mz v (.inl hv)) (mz u (.inr hu));rw[mV u hc hs];show _ < if p=p then nj u p + (M + 1) else nj u p
    rw[if_pos rfl];exact lt_of_lt_of_le (mt v hv) (le_add_left _ _)
   refine Won.swap (i:=i) (j:=1 - i) hi rfl (Wi:=Vi) (Wj:=fun u=>C u \/ Vj u) (mi:=ni) (mj:=m) (fun u hu=>?_) ⟨fun u h=>(g2.sub u h).1,g2.mine,fun u hu ho k hk=>?_,g2.zero⟩ ⟨fun u h=>h.elim (b2 u) fun h=>(g3.sub u h).1,fun u hu ho=>?_,fun u hu ho k hk=>?_,fun u hu=>mz u hu⟩
   ·by_cases q:C u
    ·exact .inr (.inl q)
    ·exact(g1 u ⟨hu,q⟩).elim .inl fun h=>.inr (.inr h)
   ·have hs:=g2.sub u hu;have how:ao.ow u=1 - i:=by have:=ao.hw u;omega
    exact g2.their u hu ho k ⟨hk,(b4 u hs.1 hs.2).1 how k⟩
   ·by_cases q:C u
    ·by_cases w:Wj u
     ·obtain⟨k,w1,w2⟩:=h3.mine u w ho;exact⟨k,.inl (b1 _ (h3.sub _ w1).1 w1),by rw[mW _ w1,mW _ w];exact w2⟩
     ·obtain⟨k,w1,w2⟩:=(b3 u q w).1 ho;exact⟨k,.inl w1,st u _ q w w1 w2⟩
    ·have hv:=hu.resolve_left q;obtain⟨k,w1,w2⟩:=g3.mine u hv ho;refine⟨k,.inr w1,?_⟩;rw[mV _ (g3.sub _ w1).2 (g3.sub _ w1).1,mV _ q (g3.sub _ hv).1];exact w2.add
   ·by_cases q:C u
    ·by_cases w:Wj u
     ·have hs:=h3.sub u w;have how:ao.ow u=i:=by have:=ao.hw u;omega
      obtain⟨w1,w2⟩:=h3.their u w ho k ⟨hk,(a4 u hs.1 hs.2).1 how k⟩;exact⟨.inl (b1 _ hk w1),by rw[mW _ w1,mW _ w];exact w2⟩
     ·obtain⟨w1,w2⟩:=(b3 u q w).2 ho k hk;exact⟨.inl w1,st u _ q w w1 w2⟩
    ·have hv:=hu.resolve_left q
     by_cases r:C (ao.ld u k)
     ·exact⟨.inl r,sv u _ hv q r⟩
     ·obtain⟨w1,w2⟩:=g3.their u hv ho k ⟨hk,r⟩;refine⟨.inr w1,?_⟩;rw[mV _ r hk,mV _ q (g3.sub _ hv).1];exact w2.add
  ·have hW:∀ u,S u->¬ A u->Wi u:=fun u hs ha=>(h1 u ⟨hs,ha⟩).resolve_right fun h=>hj ⟨u,h⟩;obtain⟨M,hM⟩:=bdd d ao.n
   let m:Nat->Nat->Nat:=fun u=>if A u then (fun c=>if c=p + 1 then d u else 0) else upC (p + 1) M (mi u)
   have mA:∀ u,A u->m u=fun c=>if c=p + 1 then d u else 0:=fun u h=>if_pos h
   have mV:∀ u,¬ A u->m u=upC (p + 1) M (mi u):=fun u h=>if_neg h
   have mz:∀ u,S u->∀ c,c < p + 1->m u c=0:=fun u hu c hc=>by
    by_cases q:A u
    ·rw[mA u q];exact if_neg (ne_of_lt hc)
    ·rw[mV u q];exact(if_neg (ne_of_lt hc)).trans (h2.zero u (hW u hu q) c hc)
   have any:∀ u v,S u->S v->ao.ln u=p->ao.Ok i u (m v) (m u):=fun u v hu hv e=>by
    unfold Bd.Ok;rw[e,if_pos hip];exact .inr fun j hj=>(mz v hv j (lt_succ_of_le hj)).trans (mz u hu j (lt_succ_of_le hj)).symm
   have up:∀ u,S u->ao.ln u ≠ p->p + 1 ≤ ao.ln u:=fun u hu e=>Nat.lt_of_le_of_ne (hS.ln u hu) fun q=>e q.symm
   have st:∀ u v,A u->ao.ln u ≠ p->A v->d v < d u->ao.Ok i u (m v) (m u):=fun u v hu hw hv he=>by
    refine .top (c:=p + 1) (up u (a2 u hu) hw) ?_ (mz v (a2 v hv)) (mz u (a2 u hu));rw[mA u hu,mA v hv];show(if p + 1=p + 1 then d v else 0) < if p + 1=p + 1 then d u else 0
    rw[if_pos rfl,if_pos rfl];exact he
   have sv:∀ u v,S u->¬ A u->A v->ao.Ok i u (m v) (m u):=fun u v hu hc hv=>by
    refine .top (c:=p + 1) (up u hu fun e=>hc (a1 u hu e)) ?_ (mz v (a2 v hv)) (mz u hu);rw[mA v hv,mV u hc];show(if p + 1=p + 1 then d v else 0) < if p + 1=p + 1 then mi u (p + 1) + M else mi u (p + 1)
    rw[if_pos rfl,if_pos rfl];exact lt_of_lt_of_le (hM v (hS.lt v (a2 v hv))) (le_add_left _ _)
   refine Won.swap (i:=i) (j:=1 - i) hi rfl (Wi:=S) (Wj:=fun _=>False) (mi:=m) (mj:=m) (fun u hu=>.inl hu) ⟨fun _ h=>h,fun u hu ho=>?_,fun u hu ho k hk=>⟨hk,?_⟩,fun u hu c hc=>mz u hu c (lt_succ_of_lt hc)⟩ ⟨fun _ h=>h.elim,fun _ h=>h.elim,fun _ h=>h.elim,fun _ h=>h.elim⟩
   ·by_cases e:ao.ln u=p
    ·obtain⟨k,hk⟩:=hS.out u hu;exact⟨k,hk,any u _ hu hk e⟩
    ·by_cases q:A u
     ·obtain⟨k,w1,w2⟩:=(a3 u q e).1 ho;exact⟨k,a2 _ w1,st u _ q e w1 w2⟩
     ·obtain⟨k,w1,w2⟩:=h2.mine u (hW u hu q) ho;refine⟨k,(h2.sub _ w1).1,?_⟩;rw[mV _ (h2.sub _ w1).2,mV _ q];exact w2.add
   ·by_cases e:ao.ln u=p
    ·exact any u _ hu hk e
    ·by_cases q:A u
     ·obtain⟨w1,w2⟩:=(a3 u q e).2 ho k hk;exact st u _ q e w1 w2
     ·by_cases r:A (ao.ld u k)
      ·exact sv u _ hu q r
      ·obtain⟨w1,w2⟩:=h2.their u (hW u hu q) ho k ⟨hk,r⟩;rw[mV _ r,mV _ q];exact w2.add
theorem Lg{ao:Bd}(h4:∀ u,u < ao.n->ao.ln u < 4):Won ao (· < ao.n) 0:=by
 have key:∀ q p,p + q=4->∀ S,Sg ao S p->Won ao S p:=fun q=>by
  induction q with
  | zero=>
   intro p hp S hS;have no:∀ u,¬ S u:=fun u hu=>by have:=hS.ln u hu;have:=h4 u (hS.lt u hu);omega
   exact⟨fun _ _=>False,fun _ _ _=>0,fun u h=>absurd h (no u),⟨fun _ h=>h.elim,fun _ h=>h.elim,fun _ h=>h.elim,fun _ h=>h.elim⟩,⟨fun _ h=>h.elim,fun _ h=>h.elim,fun _ h=>h.elim,fun _ h=>h.elim⟩⟩
  | succ q ih=>exact fun p hp S hS=>Nq (ih (p + 1) (by omega)) _ S (le_refl _) hS
 exact key 4 0 rfl _ ⟨fun _ h=>h,fun u h=>⟨true,ao.hl u true h⟩,fun _ _=>zero_le _⟩
end
section
open PySem PySem.Spec PySem.Calls PyProof.Rows PySem.W PySem.SeqAt
noncomputable def bdR(n:Nat)(kds:List Int)(ψ:List Nat)(ax:List (Nat × Nat))(hl:∀ u,u < n->(ax.getD u (0,0)).1 < n /\ (ax.getD u (0,0)).2 < n):Bd:=
 ⟨n,fun u b=>Zn (ax.getD u (0,0)) (if b then 1 else 0),fun u=>ψ.getD u 0,fun u=>if kds.getD u 0=1 then 0 else 1,fun u b hu=>Vk (hl u hu),fun u=>by split <;> decide⟩
open Classical in
noncomputable def cnR(R:RunI)(m:Nat->Nat->Nat)(r l u:Nat):Nat:=(List.range R.n).countP fun v=>decide (R.rk v=r /\ leU l (m v) (m u))
open Classical in
theorem Oq{R:RunI}{m:Nat->Nat->Nat}{r l u v:Nat}(h:leU l (m v) (m u)):cnR R m r l v ≤ cnR R m r l u:=
 List.countP_mono_left fun w _ q=>decide_eq_true (by have q:=of_decide_eq_true q;exact⟨q.1,R7 q.2 h⟩)
open Classical in
theorem Ja{R:RunI}{m:Nat->Nat->Nat}{r l u v:Nat}(hu:u < R.n)(hr:R.rk u=r)(h:ltU l (m v) (m u)):cnR R m r l v < cnR R m r l u:=
 Uq (a:=u) (fun w q=>decide_eq_true (by have q:=of_decide_eq_true q;exact⟨q.1,R7 q.2 (.inl h)⟩)) (decide_eq_false fun q=>K9 h q.2) (decide_eq_true ⟨hr,.inr fun _ _=>rfl⟩) (mem_range.mpr hu)
open Classical in
theorem L7{R:RunI}(h:RunOk R){m:Nat->Nat->Nat}{r l u:Nat}:cnR R m r l u ≤ R.τ.countP fun(x:Nat)=>(x:Int) == (r:Int):=by
 have e:R.τ=(List.range R.n).map R.rk:=Wl 0 (by rw[length_map,length_range,h.rl]) fun i hi=>(Zq (f:=R.rk) (d:=0) (v:=i) (by have:=hi;rwa [h.rl] at this)).symm;rw[e,countP_map]
 exact List.countP_mono_left fun w _ q=>by
  have q:=(of_decide_eq_true q).1;show((R.rk w:Int) == (r:Int))=true;rw[q];exact beq_self_eq_true _
noncomputable def cdR(R:RunI)(m:Nat->Nat->Nat)(u:Nat):Nat:=cnR R m 1 (1 - R.who) u * R.K + cnR R m 3 (3 - R.who) u
theorem cd_b{R:RunI}(h:RunOk R){m:Nat->Nat->Nat}{u:Nat}:cnR R m 3 (3 - R.who) u < R.K:=lt_succ_of_le (L7 h)
theorem La{R:RunI}(h:RunOk R){m:Nat->Nat->Nat}{u:Nat}:cdR R m u / R.K=cnR R m 1 (1 - R.who) u:=by
 unfold cdR;rw[Nat.mul_comm,Nat.mul_add_div R.K0,Nat.div_eq_of_lt (cd_b h),Nat.add_zero]
theorem H1{R:RunI}(h:RunOk R){m:Nat->Nat->Nat}{u:Nat}:cdR R m u < R.T:=by
 refine R.div_lt.mpr ?_;rw[La h];exact lt_succ_of_le (L7 h)
theorem Ky{R:RunI}(h:RunOk R){m:Nat->Nat->Nat}{u v:Nat}(hu:u < R.n)(ho:if R.ψ.getD u 0 % 2=R.who then leU (R.ψ.getD u 0) (m v) (m u) else ltU (R.ψ.getD u 0) (m v) (m u)):R.liftN (R.rk u) (cdR R m v) ≤ cdR R m u:=by
 have hrk:=h.rk_eq hu;have hl4:=h.line_lt hu;have hw:=h.hw;unfold RunI.liftN;rw[if_neg (Nat.not_le.mpr (H1 h)),La h];generalize R.ψ.getD u 0=l at *;have hl:l=R.rk u - R.who:=by rw[hrk,Nat.add_sub_cancel]
 have key:∀ w < 2,∀ l < 4,(l % 2=w ↔ (l + w) % 2=0) /\ (l + w=1->1 - w=l) /\ (l + w=3->3 - w=l) /\ (2 ≤ l + w->1 - w ≤ l) /\ (3 ≤ l + w->3 - w ≤ l):=by decide
 obtain⟨k0,k1,k3,k2,k4⟩:=key R.who hw l hl4;rw[<- hrk] at k0 k1 k3 k2 k4
 have a1:∀ {c:Nat},c ≤ l->leU c (m v) (m u):=fun hc=>by
  split at ho
  ·exact Og hc ho
  ·exact Og hc (.inl ho)
 unfold cdR;split
 ·exact zero_le _
 split
 ·rename_i r1;rw[if_neg fun q=>by have:=k0.mp q;rw[r1] at this;exact absurd this (by decide)] at ho;exact le_trans (mul_le_mul_right _ (Ja hu r1 (k1 r1 ▸ ho))) (le_add_right ..)
 split
 ·rename_i r2;exact le_trans (mul_le_mul_right _ (Oq (a1 (k2 (le_of_eq r2.symm))))) (le_add_right ..)
 split
 ·rename_i r3;have ha:=Oq (R:=R) (r:=1) (a1 (k2 (by rw[r3];decide)));rw[if_neg fun q=>by have:=k0.mp q;rw[r3] at this;exact absurd this (by decide)] at ho;rw[add_assoc];exact add_le_add (mul_le_mul_right _ ha) (Ja hu r3 (k3 r3 ▸ ho))
 ·rename_i r0 r1 r2 r3;have h3:3 ≤ R.rk u:=(by decide:∀ r ≤ 4,¬ r=0->¬ r=1->¬ r=2->¬ r=3->3 ≤ r) _ (h.rk4 hu) r0 r1 r2 r3;exact add_le_add (mul_le_mul_right _ (Oq (a1 (k2 (le_trans (by decide) h3))))) (Oq (a1 (k4 h3)))
open Classical in
theorem Q1{R:RunI}(h:RunOk R){s:Xx}{C:Nat->Nat}(E:EndR R s C){W:Nat->Prop}{m:Nat->Nat->Nat}{hl:∀ u,u < R.n->(R.ax.getD u (0,0)).1 < R.n /\ (R.ax.getD u (0,0)).2 < R.n}(P:PM (bdR R.n R.kds R.ψ R.ax hl) (· < R.n) 0 R.who W m){u:Nat}(hu:u < R.n)(hW:W u):C u < R.T:=by
 let M:Nat->Nat:=fun v=>if W v then cdR R m v else R.T
 have hM:R.LeT M:=fun v hv=>by
  show(if W v then cdR R m v else R.T) ≤ R.T;split
  ·exact le_of_lt (H1 h)
  ·exact le_refl _
 have mW:∀ v,W v->M v=cdR R m v:=fun v q=>if_pos q;refine lt_of_le_of_lt (E.ls M hM (fun v hv=>?_) u hu) (by rw[mW u hW];exact H1 h)
 by_cases q:W v
 ·have hb:=h.best hM hv;have hkd:=h.kd hv
  have st:∀ k:Bool,W (Zn (R.lead v) (if k then 1 else 0))->(bdR R.n R.kds R.ψ R.ax hl).Ok R.who v (m (Zn (R.lead v) (if k then 1 else 0))) (m v)->R.liftN (R.rk v) (M (Zn (R.lead v) (if k then 1 else 0))) ≤ M v:=fun k q1 q2=>by
   rw[mW _ q,mW _ q1];exact Ky h hv q2
  have ow:(bdR R.n R.kds R.ψ R.ax hl).ow v=R.who ↔ R.ρ.getD v 0=1:=by
   rw[hkd.1];show(if R.kds.getD v 0=1 then 0 else 1)=R.who ↔ _;have hw:R.who=0 \/ R.who=1:=(by decide:∀ w < 2,w=0 \/ w=1) R.who h.hw;rcases hkd.2 with e | e <;> rcases hw with w | w <;> rw[e,w] <;> decide
  by_cases o:R.ρ.getD v 0=1
  ·obtain⟨k,q1,q2⟩:=P.mine v q (ow.mpr o);exact le_trans (hb.own o _) (st k q1 q2)
  ·obtain⟨k,e⟩:=hb.one
   have hk:∃ b:Bool,Zn (R.lead v) k=Zn (R.lead v) (if b then 1 else 0):=by
    by_cases q:k=0
    ·exact⟨false,by rw[q];rfl⟩
    ·exact⟨true,by unfold Zn;rw[if_neg q];rfl⟩
   obtain⟨b,hb2⟩:=hk;rw[e,hb2];obtain⟨q1,q2⟩:=P.their v q (fun w=>o (ow.mp w)) b (Vk (hl v hv));exact st b q1 q2
 ·show R.fN M v ≤ if W v then cdR R m v else R.T
  rw[if_neg q];exact R.liftN_le
theorem once{R S:RunI}(hR:RunOk R)(hS:RunOk S){C D:Nat->Nat}{sR sS:Xx}(ER:EndR R sR C)(ES:EndR S sS D)(n:S.n=R.n)(k:S.kds=R.kds)(l:S.ψ=R.ψ)(d:S.ax=R.ax)(wR:R.who=0)(wS:S.who=1){u:Nat}(hu:u < R.n)(h1:C u < R.T):¬ D u < S.T:=fun h2=>by
 let g:Nat->Nat:=fun v=>if R.kds.getD v 0=1 then R.beN C v else S.beN D v
 have ld:∀ v,S.lead v=R.lead v:=fun v=>by unfold RunI.lead;rw[d]
 have o:∀ v,∃ k,g v=Zn (R.lead v) k:=fun v=>by
  show ∃ k,(if R.kds.getD v 0=1 then R.beN C v else S.beN D v)=_;split
  ·exact⟨_,rfl⟩
  ·exact⟨_,congrArg (fun p=>Zn p _) (ld v)⟩
 have GR:Go R C g:=⟨fun v hv s=>by
  have:=(hR.kd hv).1.mp s;rw[wR] at this
  exact if_pos this,fun v _=>o v⟩
 have GS:Go S D g:=⟨fun v hv s=>by
  have:=(hS.kd hv).1.mp s;rw[wS,k] at this
  exact if_neg (by rw[this];decide),fun v _=>by rw[ld];exact o v⟩
 obtain⟨m,m1,m2⟩:=Qf (P:=fun m=>∃ k,k < 8 /\ m=R.ψ.getD (it g k (it g 8 u)) 0) ⟨_,0,by decide,rfl⟩;have m3:∀ k,k < 8->m ≤ R.ψ.getD (it g k (it g 8 u)) 0:=fun k hk=>le_of_not_lt fun q=>m2 _ q ⟨k,hk,rfl⟩;have e1:=GR.low hR ER hu h1 m1 m3;have e2:=GS.low hS ES (n.symm ▸ hu) h2 (l.symm ▸ m1) (l.symm ▸ m3);rw[wR] at e1;rw[wS,e1] at e2;exact absurd e2 (by decide)
end
section
open PySem PySem.Spec PySem.Calls PyProof.Rows PySem.W PySem.SeqAt Builtin Builtin.Str
theorem R1(x:Str)(c i:Nat):subAt x ⟨#[c]⟩ i=true ↔ x.cps.toList[i]?=some c:=by
 unfold subAt;rw[beq_iff_eq];show x.cps.extract i (i + 1)=#[c] ↔ _;rw[<- Array.toList_inj,Array.toList_extract,List.extract_eq_take_drop]
 haveI:=StrLaws.take1_drop (l:=x.cps.toList) (c:=c) (i:=i)
 rw[beq_iff_eq] at this;rw[<- this,show i + 1 - i=1 by simp]
theorem Ul(x:Str)(c:Nat):∀ (k i:Nat) (st:Array Nat × Nat),i + k=x.length + 1->st.2 ≤ i->st.1.size ≤ i->
  (forIn (range' i k) st (StrLaws.occBody x ⟨#[c]⟩ x.length (x.length + 1))).run.fst.size=st.1.size + (x.cps.toList.drop i).count c
 | 0,i,st,hi,h2,h3=>by
  haveI:x.cps.toList.drop i=[]:=by rw[List.drop_eq_nil_iff];exact le_of_succ_le (le_of_eq hi.symm)
  rw[this];rfl
 | k + 1,i,st,hi,h2,h3=>by
  haveI hxl:x.length=x.cps.toList.length:=by simp[Str.length]
  rw[List.range'_succ,forIn_cons];unfold StrLaws.occBody
  by_cases hc:x.cps.toList[i]?=some c
  ·haveI hin:=(List.getElem?_eq_some_iff.mp hc).1
   haveI hic:=(List.getElem?_eq_some_iff.mp hc).2
   rw[if_pos ⟨⟨⟨by exact lt_succ_of_le (le_trans h3 (le_of_lt (Nat.lt_of_lt_of_eq hin hxl.symm))),h2⟩,by show i + 1 ≤ _;assumption⟩,(R1 x c i).mpr hc⟩]
   haveI ih:=Ul x c k (i + 1) (st.1.push i,i + 1) (by exact(succ_add_eq_add_succ i k).trans hi) (le_refl _) (by simp;assumption)
   show(forIn (range' (i + 1) k) (st.1.push i,i + 1) (StrLaws.occBody x ⟨#[c]⟩ x.length (x.length + 1))).run.fst.size=_;rw[ih,drop_eq_getElem_cons hin,count_cons,hic];simp;exact succ_add_eq_add_succ ..
  ·rw[if_neg (fun h=>hc ((R1 x c i).mp h.2))]
   haveI ih:=Ul x c k (i + 1) (st.1,st.2) (by exact(succ_add_eq_add_succ i k).trans hi) (by show st.2 ≤ i + 1;exact le_succ_of_le h2) (by show st.1.size ≤ i + 1;exact le_succ_of_le h3)
   show(forIn (range' (i + 1) k) (st.1,st.2) (StrLaws.occBody x ⟨#[c]⟩ x.length (x.length + 1))).run.fst.size=_;rw[ih]
   by_cases hin:i < x.cps.toList.length
   ·rw[drop_eq_getElem_cons hin,count_cons]
    haveI:¬ x.cps.toList[i]=c:=fun e=>hc (by rw[getElem?_eq_getElem hin,e])
    rw[if_neg (by simpa using this)];rfl
   ·rw[drop_eq_nil_of_le (by exact le_succ_of_le (not_lt.mp hin)),drop_eq_nil_of_le (by exact(le_of_not_lt hin))]
theorem Jv(x:Str):(((occurrences x "\n" 0 x.length (x.length + 1)).length:Nat):Int)=nl x.cps.toList:=by
 rw[show Str.ofString "\n" =⟨#[10]⟩ by rfl,StrLaws.occ_eq,length_toList]
 haveI:=Ul x 10 (x.length + 1) 0 (#[],0) (by exact zero_add _) (le_refl _) (le_refl _)
 rw[show x.length + 1 - 0=x.length + 1 from rfl,this];simp[nl]
end
section
section
variable{X:Cx}{B:St}{k:Nat}{P:V->St->Prop}
variable{pm cd doc dV kV:Value}{L fa:Addr}{m:List (Addr × Cell)}{Q:Fl->St->Prop}{c1 c2 c3 c4 c5 c6 c7 c8 c9 d1 d2 d3 d4 d5 l1 l2 l3 l4 l5 l6 l7 l8 l9 w1 w2 w3 w4:Option V}{a:LxA}{pre post:List (Addr × Cell)}
theorem P6{kp:List Nat}{n:Nat}(h:kp.Perm (List.range n)){l:List Int}(h1:l.Perm (kp.map fun(x:Nat)=>(x:Int)))(h2:l.Pairwise (· ≤ ·)):l=(List.range n).map fun(x:Nat)=>(x:Int):=by
 refine List.Perm.eq_of_pairwise (le:=(· ≤ ·)) (fun a b _ _ q r=>Int.le_antisymm q r) h2 ?_ (h1.trans (h.map _));exact pairwise_map.mpr (List.pairwise_lt_range.imp fun h=>ofNat_le.mpr (le_of_lt h))
theorem law_14(G:G3 X)(hA:Rm X.A (k + 9)){n:Nat}(hn:4 ≤ n /\ n ≤ 5){kp:List Nat}(hk:kp.Perm (List.range n)){txt:Str}(h:∀ _:True,Q (.ret (.bool true)) ⟨lwL l1 l2 (some (.str txt)) l4 l5 (some (Y1 kp)) w1 w2 w3 w4,lwC c1 c2 c3 c4 c5 c6 c7 (some (nat n)) (some (.ref a.L)) d1 d2 d3 d4 d5,[],pre++Zp (qL X.w.params) a (1 + nl txt.cps.toList) [] []++post⟩):LS (X.callee (Y4 pm cd doc dV kV) L fa) 14 ⟨lwL l1 l2 (some (.str txt)) l4 l5 (some (Y1 kp)) w1 w2 w3 w4,lwC c1 c2 c3 c4 c5 c6 c7 (some (nat n)) (some (.ref a.L)) d1 d2 d3 d4 d5,[],pre++Zp (qL X.w.params) a (1 + nl txt.cps.toList) [] []++post⟩ Q:=by
 refine LS.i G hA fun hR hh G'=>?_;have hkl:kp.length=n:=by rw[hk.length_eq,length_range]
 refine ES.ret ?_;walk_at"v";walk_at"v";refine EV.callB (by walk_at"vg") "sorted" (by walk_at"vbn") ?_;walk_at"vs";show CALL _ _ [V.list (kp.map nat)] _ _;rw[show kp.map nat=(kp.map fun(x:Nat)=>(x:Int)).map V.int by rw[map_map];rfl];refine CALL.sorted (by rw[length_map,hkl];exact lt_of_le_of_lt hn.2 (by decide)) (fun rk h1 h2=>?_);rw[P6 hk h1 h2];refine EV.callT (by walk_at"vg") "list" (by walk_at"vbn") ?_;walk_at"v";refine EV.rangeC (by walk_at"vg") ?_;walk_at"vs";refine CALL.range ?_;walk_at"vs";refine CALL.listR hh (le_trans hn.2 (by decide)) ?_;rw[show(List.range n).map nat=((List.range n).map fun(x:Nat)=>(x:Int)).map V.int by rw[map_map];rfl];refine CMP.eqv 2 hR (V5 _) ?_;walk_at"vs";refine(if_pos rfl).mpr ?_;walk_at"v";refine EV.attrI 101 100 _ (Y7 G') (by kernel_rfl) (by kernel_rfl) (by rw[typeLookup_type,builtinLookup_eq_fast];kernel_rfl) ?_;walk_at"vs";refine⟨a.L,a.dx,nsL a _,.int _,rfl,by walk_at"vm",by walk_at"vm",by walk_at"vm",(fun Z v hv=>by obtain⟨t,rfl⟩:=hv;rfl),?_⟩;walk_at"vs";refine EV.meth "str" "str.count" F.plainAttrs_str F.slot_str_count F.type_str_count ?_;walk_at"vs";refine⟨TypeV.str,?_⟩;walk_at"vs";refine CALL.scount ?_;rw[Jv];walk_at"vs";rw[beq_self_eq_true];exact h trivial
end
end
section
open PySem PySem.Spec PySem.Calls PyProof.Rows PySem.W PySem.SeqAt Builtin Builtin.Str
theorem Qj{α:Type}{l:List α}{i:Nat}(d:α)(h:i < l.length):l.getD i d ∈ l:=by rw[getD_eq_getElem?_getD,getElem?_eq_getElem h];exact getElem_mem h
noncomputable abbrev cpl(s:Str):List Nat:=s.cps.toList
theorem V0(a b:Str):cpl (a++b)=cpl a++cpl b:=by
 show(a.cps++b.cps).toList=_;simp
theorem Nj:∀ (l:List Str),cpl (glued "" l)=l.flatMap cpl:=by
 intro l
 haveI key:∀ (l:List Str) (acc:Array Nat),(l.foldl (fun acc p=>acc++(Str.ofString "").cps++p.cps) acc).toList=acc.toList++l.flatMap cpl:=by
  intro l
  induction l with
  | nil=>intro acc;exact(append_nil _).symm
  | cons a l ih=>
   intro acc;rw[foldl_cons,ih,flatMap_cons]
   haveI:(Str.ofString "").cps=#[]:=by rfl
   simp[this]
 cases l with
 | nil=>rfl
 | cons a l=>
  show(l.foldl (fun acc p=>acc++(Str.ofString "").cps++p.cps) a.cps).toList=_;rw[key];rfl
noncomputable def sgL(q full:Bool)(n:Nat):List Nat:=cpl (Yn q full n)
theorem Ts(q full:Bool)(n:Nat):sgL q full n=[92,n] \/ (sgL q full n=[n] /\ n ∉ cpl (V9 q)):=by
 delta sgL Yn
 split
 ·left;rw[V0];rfl
 ·rename_i h
  right
  refine⟨rfl,fun hm=>h ?_⟩;simp only[or_eq_true,decide_eq_true_eq];exact .inr hm
noncomputable def Yy(sty:Nat)(w:List Nat):List Nat:=cpl (Xe (sty % 2 == 1))++w.flatMap (sgL (sty % 2 == 1) (sty / 2 % 2 == 1))++cpl (Xe (sty % 2 == 1))++cpl ((W9 (sty % 2 == 1)).getD (sty / 4) "")
theorem Ku(sty:Nat)(w:Str):cpl (Ta sty w)=Yy sty (cpl w):=by
 delta Ta Yy
 rw[V0,V0,V0]
 haveI:cpl (Txt.join "" (w.cps.toList.map (Yn (sty % 2 == 1) (sty / 2 % 2 == 1))))=(cpl w).flatMap (sgL (sty % 2 == 1) (sty / 2 % 2 == 1)):=by
  show cpl (glued "" _)=_;rw[Nj,List.flatMap_map];rfl
 rw[this]
theorem L6(ws:List Str)(c:Nat):cpl (Tn ws c)=(List.range ws.length).flatMap fun i=>Yy (Zy c i) (cpl (ws.getD i "")):=by
 haveI key:∀ (l:List Nat) (t:Str),cpl (l.foldl (fun t i=>t++Ta (Zy c i) (ws.getD i "")) t)=cpl t++l.flatMap fun i=>Yy (Zy c i) (cpl (ws.getD i "")):=by
  intro l
  induction l with
  | nil=>intro t;exact(append_nil _).symm
  | cons a l ih=>intro t;rw[foldl_cons,ih,V0,Ku,flatMap_cons,append_assoc]
 delta Tn
 rw[key];rfl
theorem Kv{x:Str}(h:cpl x ≠ []):cpl (StrLaws.sliceText x none (some (-1)))=(cpl x).dropLast:=by
 haveI hl:0 < (cpl x).length:=List.length_pos_iff.mpr h
 haveI e:x.length=(cpl x).length:=by simp[Str.length]
 rw[StrLaws.sliceText_neg_hi x none (by decide) (by exact Int.neg_le_neg (ofNat_le (m:=1).mpr (Nat.lt_of_lt_of_eq hl e.symm))),StrLaws.sliceText_to (by show 0 ≤ _ /\ _ ≤ ((cpl x).length:Int);rw[<- e];exact K6 (Nat.lt_of_lt_of_eq hl e.symm))];show(((cpl x).drop 0).take (-1 + (x.length:Int) - 0).toNat).toArray.toList=_;rw[List.drop_zero,List.dropLast_eq_take,show(-1 + (x.length:Int) - 0).toNat=(cpl x).length - 1 by rw[sub_zero,e];exact N9 hl]
theorem Tt{st:Nat->Bool}{q full:Bool}(h92:st 92=false)(hn:∀ n,n ∉ cpl (V9 q)->st n=false /\ n ≠ 92):∀ (w rest:List Nat),Y8 st (w.flatMap (sgL q full)++rest)=(w++(Y8 st rest).1,(Y8 st rest).2)
 | [],rest=>by rfl
 | n::w,rest=>by
  haveI ih:=Tt h92 hn w rest (full:=full)
  rw[flatMap_cons,append_assoc];rcases Ts q full n with h | ⟨h,hne⟩
  ·rw[h];show Y8 st (92::n::(w.flatMap (sgL q full)++rest))=_;rw[Vw h92,ih];rfl
  ·rw[h];obtain⟨h1,h2⟩:=hn n hne;show Y8 st (n::(w.flatMap (sgL q full)++rest))=_;rw[Vu h1 h2,ih];rfl
theorem I8(n:Nat)(h:n ∉ cpl (V9 true)):(n == 34)=false /\ n ≠ 92:=by
 haveI e:cpl (V9 true)=[34,92]:=by rfl
 rw[e] at h;simp at h;exact⟨by simp[h.1],h.2⟩
theorem Je(n:Nat):wsB n=true ↔ n=10 \/ n=9 \/ n=13 \/ n=32:=by
 delta wsB
 haveI e:wsF.cps.toList=[10,9,13,32]:=by rfl
 rw[e,decide_eq_true_eq,mem_cons,mem_cons,mem_cons,mem_singleton]
theorem Mg(n:Nat)(h:n ∉ cpl (V9 false)):wsB n=false /\ n ≠ 92:=by
 haveI e:cpl (V9 false)=[92,32,9,10,13]:=by rfl
 rw[e] at h;simp at h;refine⟨?_,h.1⟩;cases hw:wsB n with
 | false=>rfl
 | true=>
  rcases(Je n).mp hw with h1 | h1 | h1 | h1
  ·exact absurd h1 h.2.2.2.1
  ·exact absurd h1 h.2.2.1
  ·exact absurd h1 h.2.2.2.2
  ·exact absurd h1 h.2.1
theorem Uh:∀ (pre t:List Nat),(∀ c ∈ pre,wsB c=true)->Zf (pre++t)=Zf t
 | [],t,_=>rfl
 | c::pre,t,h=>by
  rw[List.cons_append,O8 (h c mem_cons_self)];exact Uh pre t fun c hc=>h c (mem_cons_of_mem _ hc)
theorem Gr:∀ k < 5,∀ c ∈ cpl ((W9 true).getD k ""),wsB c=true:=by decide +kernel
theorem Gq:∀ k < 5,∃ c g,cpl ((W9 false).getD k "")=c::g /\ wsB c=true /\ ∀ d ∈ g,wsB d=true:=by
 intro k hk
 haveI h:k=0 \/ k=1 \/ k=2 \/ k=3 \/ k=4:=by exact(by decide:∀ k < 5,k=0 \/ k=1 \/ k=2 \/ k=3 \/ k=4) k hk
 rcases h with h | h | h | h | h <;> subst h
 ·exact⟨32,[],by rfl,by decide,by exact fun _ h=>nomatch h⟩
 ·exact⟨9,[],by rfl,by decide,by exact fun _ h=>nomatch h⟩
 ·exact⟨10,[],by rfl,by decide,by exact fun _ h=>nomatch h⟩
 ·exact⟨13,[],by rfl,by decide,by exact fun _ h=>nomatch h⟩
 ·exact⟨10,[32],by rfl,by decide,by decide⟩
theorem Lk{sty:Nat}(hs:sty < 20){n0:Nat}{w:List Nat}(h0:n0 ≠ 34)(tail:List Nat):∃ g,(∀ c ∈ g,wsB c=true) /\ Zf (Yy sty (n0::w)++tail)=(n0::w,g++tail):=by
 delta Yy
 cases hq:(sty % 2 == 1) with
 | true=>
  refine⟨_,Gr (sty / 4) (by exact Nat.div_lt_of_lt_mul (show sty < 4 * 5 from hs)),?_⟩
  haveI e:cpl (Xe true)=[34]:=by rfl
  rw[e];simp only[append_assoc,nil_append,List.cons_append,Tm];rw[Tt (st:=fun c=>c == 34) (by decide) I8];rw[Ww (by decide)];rw[append_nil]
 | false=>
  obtain⟨c,g,hg,hc,hgs⟩:=Gq (sty / 4) (by exact Nat.div_lt_of_lt_mul (show sty < 4 * 5 from hs));refine⟨g,hgs,?_⟩
  haveI e:cpl (Xe false)=[]:=by rfl
  rw[e,hg];simp only[append_nil,nil_append,append_assoc]
  haveI key:Zf ((n0::w).flatMap (sgL false (sty / 2 % 2 == 1))++((c::g)++tail))=Y8 wsB ((n0::w).flatMap (sgL false (sty / 2 % 2 == 1))++((c::g)++tail)):=by
   rw[flatMap_cons];rcases Ts false (sty / 2 % 2 == 1) n0 with h | ⟨h,hne⟩
   ·rw[h];exact Vh (by decide) (by decide)
   ·rw[h];exact Vh (Mg n0 hne).1 h0
  rw[key,Tt (by decide) Mg,show(c::g)++tail=c::(g++tail) from rfl,Ww hc];rw[append_nil]
theorem Ny:∀ sty < 20,Zf ((Yy sty [35]).dropLast)=([35],[]):=by decide +kernel
theorem Iw:∀ sty < 20,Yy sty [35] ≠ []:=by decide +kernel
theorem Vl(t:List Nat):∀ i,Y0 t (i + 1)=Y0 (Zf t).2 i
 | 0=>rfl
 | i + 1=>by show(Zf (Y0 t (i + 1))).2=(Zf (Y0 (Zf t).2 i)).2;rw[Vl t i]
noncomputable def okW(p:Nat × List Nat):Prop:=p.1 < 20 /\ ∃ n0 w,p.2=n0::w /\ n0 ≠ 34
theorem O7:∀ (l:List (Nat × List Nat)) (pre tail:List Nat),(∀ c ∈ pre,wsB c=true)->(∀ p ∈ l,okW p)->
  (∀ i p,l[i]?=some p->(Zf (Y0 (pre++l.flatMap (fun p=>Yy p.1 p.2)++tail) i)).1=p.2) /\ ∃ g,(∀ c ∈ g,wsB c=true) /\ Y0 (pre++l.flatMap (fun p=>Yy p.1 p.2)++tail) l.length=g++tail
 | [],pre,tail,hp,_=>⟨fun i p h=>by contradiction,pre,hp,by exact append_assoc ..⟩
 | (s,w)::l,pre,tail,hp,hl=>by
  obtain⟨hs,n0,w',rfl,h0⟩:=hl (s,w) mem_cons_self;obtain⟨g,hg,e⟩:=Lk hs (w:=w') h0 (l.flatMap (fun p=>Yy p.1 p.2)++tail)
  haveI e1:pre++((s,n0::w')::l).flatMap (fun p=>Yy p.1 p.2)++tail=pre++(Yy s (n0::w')++(l.flatMap (fun p=>Yy p.1 p.2)++tail)):=by
   rw[flatMap_cons];simp[append_assoc]
  haveI e2:Zf (pre++((s,n0::w')::l).flatMap (fun p=>Yy p.1 p.2)++tail)=(n0::w',g++(l.flatMap (fun p=>Yy p.1 p.2)++tail)):=by
   rw[e1,Uh pre _ hp,e]
  obtain⟨ih1,g',hg',ih2⟩:=O7 l g tail hg (fun p hp=>hl p (mem_cons_of_mem _ hp));rw[append_assoc] at ih1 ih2;refine⟨fun i p hi=>?_,g',hg',?_⟩
  ·cases i with
   | zero=>cases hi;show(Zf (pre++_++tail)).1=_;rw[e2]
   | succ i=>rw[Vl,e2];exact ih1 i p hi
  ·rw[length_cons,Vl,e2];exact ih2
theorem Xo(c i:Nat):Zy c i < 20:=mod_lt _ (by decide)
noncomputable def wlL(ws:List Str)(c:Nat):List (Nat × List Nat):=(List.range ws.length).map fun k=>(Zy c k,cpl (ws.getD k ""))
noncomputable def Su(ws:List Str)(c:Nat):Str:=StrLaws.sliceText (Tn (ws++[Str.ofString "#"]) c) none (some (-1))
theorem O2(ws:List Str)(c:Nat):(wlL ws c).length=ws.length:=by delta wlL;rw[length_map,length_range]
theorem Jf{ws:List Str}{c:Nat}(h:∀ w ∈ ws,∃ n0 t,cpl w=n0::t /\ n0 ≠ 34):∀ p ∈ wlL ws c,okW p:=fun p hp=>by
 obtain⟨k,hk,rfl⟩:=mem_map.mp hp;exact⟨Xo _ _,h _ (Qj _ (mem_range.mp hk))⟩
theorem O6(ws:List Str)(c:Nat):cpl (Su ws c)=[]++(wlL ws c).flatMap (fun p=>Yy p.1 p.2)++(Yy (Zy c ws.length) [35]).dropLast:=by
 haveI e:cpl (Tn (ws++[Str.ofString "#"]) c)=(wlL ws c).flatMap (fun p=>Yy p.1 p.2)++Yy (Zy c ws.length) [35]:=by
  rw[L6,length_append,show ws.length + [Str.ofString "#"].length=ws.length + 1 from rfl,range_succ,flatMap_append]
  haveI hfm:∀ l:List Nat,(∀ i ∈ l,i < ws.length)->(l.flatMap fun i=>Yy (Zy c i) (cpl ((ws++[Str.ofString "#"]).getD i "")))=(l.map fun k=>(Zy c k,cpl (ws.getD k ""))).flatMap fun p=>Yy p.1 p.2:=by
   intro l
   induction l with
   | nil=>intro _;rfl
   | cons a l ih=>
    intro h;rw[flatMap_cons,map_cons,flatMap_cons,ih fun i hi=>h i (mem_cons_of_mem _ hi)]
    haveI ha:=h a mem_cons_self
    haveI:(ws++[Str.ofString "#"]).getD a "" =ws.getD a "" :=by
     rw[getD_eq_getElem?_getD,List.getElem?_append_left ha,<- getD_eq_getElem?_getD]
    rw[this]
  haveI hla:(ws++[Str.ofString "#"]).getD ws.length "" = "#" :=by
   rw[getD_eq_getElem?_getD,getElem?_append_right (le_refl _),sub_self];rfl
  haveI hlb:cpl "#" =[35]:=by rfl
  rw[hfm _ fun i hi=>mem_range.mp hi,flatMap_cons,List.flatMap_nil,append_nil,hla,hlb]
  delta wlL
  rfl
 haveI hne:=Iw _ (Xo c ws.length)
 delta Su
 rw[Kv (by rw[e];exact fun h=>hne (List.append_eq_nil_iff.mp h).2),e,List.dropLast_append_of_ne_nil hne,nil_append]
theorem Jk(s:Str):tx (cpl s)=s:=by cases s;simp[tx]
theorem L5{ws:List Str}{c:Nat}(h:∀ w ∈ ws,∃ n0 t,cpl w=n0::t /\ n0 ≠ 34):(∀ i,i < ws.length->Ox (Su ws c).cps.toList i=ws.getD i "") /\ Zf (Y0 (Su ws c).cps.toList ws.length)=([35],[]):=by
 obtain⟨h1,g,hg,h2⟩:=O7 (wlL ws c) [] ((Yy (Zy c ws.length) [35]).dropLast) (by exact fun _ h=>nomatch h) (Jf h)
 haveI e:cpl (Su ws c)=_:=O6 ws c
 rw[<- e] at h1 h2;rw[O2] at h2;refine⟨fun i hi=>?_,?_⟩
 ·show tx (Zf (Y0 (cpl (Su ws c)) i)).1=_;rw[h1 i (Zy c i,cpl (ws.getD i "")) (by delta wlL;rw[getElem?_map,getElem?_range hi];rfl)];exact Jk _
 ·show Zf (Y0 (cpl (Su ws c)) ws.length)=_;rw[h2,Uh g _ hg];exact Ny _ (Xo c ws.length)
theorem On{sty:Nat}(hs:sty < 20)(w:List Nat):(Yy sty w).length ≤ 2 * w.length + 4:=by
 haveI h1:∀ q:Bool,(cpl (Xe q)).length ≤ 1:=by decide +kernel
 haveI h2:∀ q:Bool,∀ k < 5,(cpl ((W9 q).getD k "")).length ≤ 2:=by decide +kernel
 haveI h3:∀ (q full:Bool) (w:List Nat),(w.flatMap (sgL q full)).length ≤ 2 * w.length:=fun q full w=>by
  induction w with
  | nil=>exact le_refl _
  | cons n w ih=>
   rw[flatMap_cons,length_append,length_cons];rcases Ts q full n with h | ⟨h,_⟩ <;> rw[h] <;> simp only[length_cons,length_nil] <;> first | exact le_trans (add_le_add_left ih 2) (le_of_eq (Nat.add_comm ..)) | exact le_succ_of_le (le_trans (add_le_add_left ih 1) (le_of_eq (Nat.add_comm ..)))
 delta Yy
 haveI a:=h1 (sty % 2 == 1)
 haveI b:=h2 (sty % 2 == 1) (sty / 4) (by exact Nat.div_lt_of_lt_mul (show sty < 4 * 5 from hs))
 haveI c:=h3 (sty % 2 == 1) (sty / 2 % 2 == 1) w
 simp only[length_append];exact le_trans (add_le_add (add_le_add (add_le_add a c) a) b) (le_of_eq (congrArg (· + 1 + 2) (Nat.add_comm 1 (2 * w.length))))
theorem Kt{ws:List Str}{c:Nat}(hl:ws.length ≤ 20)(hw:∀ w ∈ ws,w.length ≤ 5):(Su ws c).cps.toList.length ≤ sizeLine:=by
 show(cpl (Su ws c)).length ≤ _;rw[O6]
 haveI h1:∀ l:List (Nat × List Nat),(∀ p ∈ l,p.1 < 20 /\ p.2.length ≤ 5)->(l.flatMap (fun p=>Yy p.1 p.2)).length ≤ 14 * l.length:=by
  intro l
  induction l with
  | nil=>intro _;exact le_refl _
  | cons p l ih=>
   intro h
   haveI h1:=ih fun p hp=>h p (mem_cons_of_mem _ hp)
   haveI h2:=h p mem_cons_self
   haveI h3:=On h2.1 p.2
   rw[flatMap_cons,length_append,length_cons]
   haveI h4:=h2.2
   clear ih h h2 hl hw;exact le_trans (add_le_add (le_trans h3 (add_le_add_right (mul_le_mul_left 2 h4) 4)) h1) (le_of_eq (Nat.add_comm ..))
 haveI h2:=h1 (wlL ws c) fun p hp=>by
  obtain⟨k,hk,rfl⟩:=mem_map.mp hp;exact⟨Xo _ _,hw _ (Qj _ (mem_range.mp hk))⟩
 haveI h3:=On (Xo c ws.length) [35]
 rw[O2] at h2;rw[nil_append,length_append,List.length_dropLast];refine le_trans (add_le_add h2 (le_trans (sub_le _ _) h3)) ?_;exact le_trans (add_le_add_right (mul_le_mul_left 14 hl) _) (by decide)
theorem N1{ar:List Str}{ax:List (Nat × Nat)}(hl:ax.length=ar.length)(hlt:∀ p ∈ ax,p.1 < ar.length /\ p.2 < ar.length):∀ w ∈ T4 ar ax,w ∈ ar:=fun w hw=>by
 obtain⟨u,hu,hw⟩:=mem_flatMap.mp hw;obtain⟨v,hv,rfl⟩:=mem_map.mp hw
 haveI hul:=mem_range.mp hu
 haveI hp:=hlt _ (mem_of_getElem? (Zi (0,0) (hl.symm ▸ hul)))
 haveI hvl:v < ar.length:=by
  rcases mem_cons.mp hv with rfl | hv
  ·exact hul
  rcases mem_cons.mp hv with rfl | hv
  ·exact hp.1
  ·rw[mem_singleton] at hv;subst hv;exact hp.2
 exact mem_of_getElem? (Zi (Str.ofString "") hvl)
theorem Ov{rows:List Str}{c:Nat}(hl:rows.length ≤ 15)(hs:∀ w ∈ rows,w.length ≤ 5)(hh:∀ w ∈ rows,∃ n0 t,cpl w=n0::t /\ n0 ≠ 34):
  (Ow rows c).cps.toList.length ≤ sizeLine /\ (List.range rows.length).map (Ox (Ow rows c).cps.toList)=rows /\ Zf (Y0 (Ow rows c).cps.toList rows.length)=([35],[]):=by
 obtain⟨h1,h2⟩:=L5 (c:=c) hh;rw[show Ow rows c=Su rows c from rfl];exact⟨Kt (le_trans hl (by decide)) hs,(Wl (Str.ofString "") (by rw[length_map,length_range]) fun i hi=>by rw[Zq hi];exact(h1 i hi).symm).symm,h2⟩
end
section
open PySem PySem.Spec PySem.Calls PyProof.Rows PySem.W PySem.SeqAt
noncomputable def Nh(w:Str):Str:=⟨(w.cps.toList.takeWhile fun c=>c != 32 && c != 34 && c != 92).toArray⟩
theorem L4:∀ s ∈ ettK,∀ f ∈ sufL,Nh (s++f)=s:=by decide +kernel
set_option tactic.hygienic true in
theorem L1:∀ s ∈ ettK,∃ n0 w,cpl s=n0::w /\ n0 ≠ 34:=by
 intro s hs;have h:∀ s ∈ ettK,(match cpl s with | []=>false | n::_=>n != 34)=true:=by decide +kernel
 have:=h s hs;split at this
 ·exact ftE this
 ·rename_i n w e;exact⟨n,w,e,by simpa using this⟩
theorem Ro{α:Type}{l:List α}(h:l.Nodup){i j:Nat}(hi:i < l.length)(hj:j < l.length)(e:l[i]=l[j]):i=j:=by
 rcases Nat.lt_trichotomy i j with q | q | q
 ·exact absurd e (List.pairwise_iff_getElem.mp h i j hi hj q)
 ·exact q
 ·exact absurd e.symm (List.pairwise_iff_getElem.mp h j i hj hi q)
theorem Ko:ettV.Nodup:=by decide +kernel
theorem Kp:∀ x ∈ ettV,7 ≤ x /\ x ≤ 54:=by decide +kernel
theorem Qn:ettK.length=ettV.length:=by kernel_rfl
theorem L0:Str.ofString "" ∉ ettK /\ Str.ofString "#" ∉ ettK:=by decide +kernel
theorem Lm:∀ f ∈ sufL,f.length ≤ 2:=by decide +kernel
noncomputable def I7(w:Str):Int:=(vat ettK ettV (Nh w)).getD 0
theorem Pd{s:Str}(h:s ∈ ettK):∃ i,i < ettV.length /\ ettK[i]?=some s /\ (vat ettK ettV s).getD 0=ettV.getD i 0:=by
 obtain⟨i,hi,rfl⟩:=mem_iff_getElem.mp h;refine⟨i,Qn ▸ hi,getElem?_eq_getElem hi,?_⟩;have:=Wv Pp Qn "" 0 hi;rw[getD_eq_getElem?_getD,getElem?_eq_getElem hi] at this;rw[show ettK[i]=(some ettK[i]).getD "" from rfl,this];rfl
theorem I5{s:Str}(h:s ∈ ettK):7 ≤ (vat ettK ettV s).getD 0 /\ (vat ettK ettV s).getD 0 ≤ 54:=by
 obtain⟨i,hi,_,e⟩:=Pd h;rw[e];exact Kp _ (mem_of_getElem? (Zi (0:Int) hi))
theorem K4{s t:Str}(hs:s ∈ ettK)(ht:t ∈ ettK)(e:(vat ettK ettV s).getD 0=(vat ettK ettV t).getD 0):s=t:=by
 obtain⟨i,hi,si,e1⟩:=Pd hs;obtain⟨j,hj,tj,e2⟩:=Pd ht;rw[e1,e2,getD_eq_getElem?_getD,getD_eq_getElem?_getD,getElem?_eq_getElem hi,getElem?_eq_getElem hj] at e;have:i=j:=Ro Ko hi hj e;subst this;exact Option.some.inj (si.symm.trans tj)
theorem Mi{α β:Type}{f:α->β}:∀ {l:List α},(∀ x ∈ l,∀ y ∈ l,f x=f y->x=y)->l.Nodup->(l.map f).Nodup
 | [],_,_=>nodup_nil
 | a::l,h,hn=>by
  obtain⟨h1,h2⟩:=nodup_cons.mp hn;rw[map_cons,nodup_cons];refine⟨fun q=>?_,Mi (fun x hx y hy=>h x (mem_cons_of_mem _ hx) y (mem_cons_of_mem _ hy)) h2⟩;obtain⟨b,hb,e⟩:=mem_map.mp q;exact h1 (h b (mem_cons_of_mem _ hb) a mem_cons_self e ▸ hb)
theorem R5{α β:Type}{f:α->β}:∀ {l:List α},(l.map f).Nodup->l.Nodup
 | [],_=>nodup_nil
 | a::l,h=>by
  obtain⟨h1,h2⟩:=nodup_cons.mp h;exact nodup_cons.mpr ⟨fun q=>h1 (mem_map_of_mem q),R5 h2⟩
theorem Qo{α:Type}{l:List α}{j:Nat}{x:α}(h:l.Nodup)(hx:l[j]?=some x):x ∉ l.eraseIdx j:=fun q=>by
 obtain⟨i,hi,hne,e⟩:=List.mem_eraseIdx_iff_getElem.mp q;obtain⟨hj,e2⟩:=List.getElem?_eq_some_iff.mp hx;exact hne (Ro h hi hj (e.trans e2.symm))
structure PlX(n:Nat)(b:Pl):Prop where
 sn:b.signs.Nodup
 wd:((plW b.ps).map Nh).Nodup
 wf:∀ w ∈ plW b.ps,∃ s ∈ ettK,∃ f ∈ sufL,w=s++f
 wn:∀ w ∈ plW b.ps,Nh w ∉ b.signs
 nm:plN b.ps=(plW b.ps).map I7
 ll:∀ l ∈ plL b.ps,l < 4
 dl:∀ p ∈ plD b.ps,p.1 < n /\ p.2 < n
theorem Lw(ps:List PlR)(p:PlR):plW (ps++[p])=plW ps++[p.1] /\ plN (ps++[p])=plN ps++[p.2.1] /\ plL (ps++[p])=plL ps++[p.2.2.1] /\ plD (ps++[p])=plD ps++[p.2.2.2]:=⟨map_append,map_append,map_append,map_append⟩
theorem PlX.step{n:Nat}{b:Pl}{t:Nat}(h:PlX n b)(o:J4 n b t)(ht:t < 6)(hn:0 < n)(cell:Nat):PlX n (pl1 n b cell):=by
 have hj:cell % 48 % b.signs.length < b.signs.length:=mod_lt _ (P7 o.sl (le_of_lt_succ ht));have hjg:=Z8 (Str.ofString "") hj;have hf:sufL.getD (cell / 192 % 4) "" ∈ sufL:=mem_of_getElem? (Zi (Str.ofString "") (mod_lt _ (by decide)));have h4:cell / 48 % 4 < 4:=mod_lt _ (by decide);have hn1:cell / 768 % n < n:=mod_lt _ hn;have hn2:cell / 768 / n % n < n:=mod_lt _ hn;unfold pl1;dsimp only;generalize cell % 48 % b.signs.length=j at *;generalize sufL.getD (cell / 192 % 4) "" =f at *;generalize cell / 48 % 4=l at *;generalize cell / 768 % n=p1 at *;generalize cell / 768 / n % n=p2 at *;generalize b.signs.getD j "" =s at *;have hs:=o.sm s (mem_of_getElem? hjg);have hd:=L4 s hs f hf;obtain⟨e1,e2,e3,e4⟩:=Lw b.ps (s++f,(vat ettK ettV s).getD 0,l,p1,p2);refine⟨List.Nodup.sublist (List.eraseIdx_sublist _ _) h.sn,?_,?_,?_,?_,?_,?_⟩ <;> dsimp only
 ·rw[e1,map_append,map_cons,map_nil,hd];refine nodup_append.mpr ⟨h.wd,nodup_cons.mpr ⟨not_mem_nil,nodup_nil⟩,fun x hx y hy e=>?_⟩;rw[mem_singleton] at hy;obtain⟨w,hw,e2⟩:=mem_map.mp hx;exact h.wn w hw (by rw[e2,e,hy];exact mem_of_getElem? hjg)
 ·intro w hw;rw[e1] at hw;rcases mem_append.mp hw with hw | hw
  ·exact h.wf w hw
  ·rw[mem_singleton] at hw;exact⟨s,hs,f,hf,hw⟩
 ·intro w hw;rw[e1] at hw;rcases mem_append.mp hw with hw | hw
  ·exact fun q=>h.wn w hw (List.mem_of_mem_eraseIdx q)
  ·rw[mem_singleton] at hw;rw[hw,hd];exact Qo h.sn hjg
 ·rw[e1,e2,map_append,<- h.nm,map_cons,map_nil];unfold I7;rw[hd]
 ·intro x hx;rw[e3] at hx;rcases mem_append.mp hx with hx | hx
  ·exact h.ll x hx
  ·rw[mem_singleton] at hx;rw[hx];exact h4
 ·intro x hx;rw[e4] at hx;rcases mem_append.mp hx with hx | hx
  ·exact h.dl x hx
  ·rw[mem_singleton] at hx;rw[hx];exact⟨hn1,hn2⟩
theorem plX{cells:List Nat}:∀ t,t ≤ ((cells.drop 1).take (Zh cells)).length->PlX (Zh cells) (plF cells t):=by
 have hz:=Tf (cells:=cells);intro t
 induction t with
 | zero=>exact fun _=>⟨Pp,nodup_nil,fun w h=>(nomatch h),fun w h=>(nomatch h),rfl,fun a h=>(nomatch h),fun a h=>(nomatch h)⟩
 | succ t ih=>
  intro h;rw[S0 (getElem?_eq_getElem h)];exact(ih (le_of_succ_le h)).step (Pc (le_of_succ_le h)) (lt_of_lt_of_le h (le_trans (by rw[length_take];exact min_le_left ..) (le_trans hz.2 (by decide)))) (lt_of_lt_of_le (by decide) hz.1) _
structure BAll(ar:List Str)(aq:List Int)(ψ:List Nat)(ax:List (Nat × Nat)):Prop where
 ok:BOk ar aq ψ ax
 nd:aq.Nodup
 hd:∀ w ∈ ar,∃ n0 t,cpl w=n0::t /\ n0 ≠ 34
theorem Js{cells:List Nat}(hc:cells.length=7):(plF cells (Zh cells)).ps.length ≤ 5 /\ BAll (plW (plF cells (Zh cells)).ps) (plN (plF cells (Zh cells)).ps) (plL (plF cells (Zh cells)).ps) (plD (plF cells (Zh cells)).ps):=by
 have hz:=Tf (cells:=cells);have hlen:((cells.drop 1).take (Zh cells)).length=Zh cells:=by rw[length_take,length_drop,hc];exact Nat.min_eq_left (le_trans hz.2 (by decide))
 have x:=plX (cells:=cells) (Zh cells) (le_of_eq hlen.symm);have o:=Pc (cells:=cells) (t:=Zh cells) (le_of_eq hlen.symm);generalize hn:Zh cells=n at *;generalize plF cells n=b at *
 have dw:∀ w ∈ plW b.ps,Nh w ∈ ettK:=fun w hw=>by
  obtain⟨s,hs,f,hf,rfl⟩:=x.wf w hw;rw[L4 s hs f hf];exact hs
 have wl:(plW b.ps).length=n:=by unfold plW;rw[length_map,o.pl]
 have nl:(plN b.ps).length=n:=by unfold plN;rw[length_map,o.pl]
 have ll:(plL b.ps).length=n:=by unfold plL;rw[length_map,o.pl]
 have dl:(plD b.ps).length=n:=by unfold plD;rw[length_map,o.pl]
 refine⟨o.pl ▸ hz.2,⟨by rw[wl];exact hz,nl.trans wl.symm,ll.trans wl.symm,dl.trans wl.symm,R5 x.wd,fun q=>L0.1 (dw _ q),fun q=>L0.2 (dw _ q),fun y hy=>?_,fun w hw=>?_,x.ll,by rw[wl];exact x.dl⟩,?_,fun w hw=>?_⟩
 ·rw[x.nm] at hy;obtain⟨w,hw,rfl⟩:=mem_map.mp hy;exact I5 (dw w hw)
 ·obtain⟨s,hs,f,hf,rfl⟩:=x.wf w hw;have h1:=R8 s hs;have h2:=Lm f hf;show(s.cps++f.cps).size ≤ 5;rw[Array.size_append];exact add_le_add h1 h2
 ·rw[x.nm,show(plW b.ps).map I7=((plW b.ps).map Nh).map fun s=>(vat ettK ettV s).getD 0 by rw[map_map];rfl];refine Mi (fun y hy z hz e=>?_) x.wd;obtain⟨w,hw,rfl⟩:=mem_map.mp hy;obtain⟨w',hw',rfl⟩:=mem_map.mp hz;exact K4 (dw w hw) (dw w' hw') e
 ·obtain⟨s,hs,f,hf,rfl⟩:=x.wf w hw;obtain⟨n0,t,e,h0⟩:=L1 s hs;exact⟨n0,t++cpl f,by rw[V0,e];rfl,h0⟩
end
section
open PySem PySem.Spec PySem.Calls PyProof.Rows PySem.W PySem.SeqAt
theorem Jo{l:List Int}(hn:l.Nodup)(hp:l.Pairwise (· ≤ ·)){i j:Nat}(hi:i < l.length)(hj:j < l.length):l.getD i 0 < l.getD j 0 ↔ i < j:=by
 rw[getD_eq_getElem?_getD,getD_eq_getElem?_getD,getElem?_eq_getElem hi,getElem?_eq_getElem hj];show l[i] < l[j] ↔ i < j
 constructor
 ·intro h;refine Classical.byContradiction fun q=>?_;rcases Nat.lt_or_eq_of_le (le_of_not_lt q) with q | q
  ·exact absurd h (Int.not_lt.mpr (List.pairwise_iff_getElem.mp hp j i hj hi q))
  ·subst q;exact Int.lt_irrefl _ h
 ·intro h;exact Int.lt_iff_le_and_ne.mpr ⟨List.pairwise_iff_getElem.mp hp i j hi hj h,fun e=>ne_of_lt h (Ro hn hi hj e)⟩
theorem Nz{l:List Int}(hn:l.Nodup){i few:Nat}(hi:i < l.length):l.getD i 0 ∈ l.take few ↔ i < few:=by
 rw[getD_eq_getElem?_getD,getElem?_eq_getElem hi];show l[i] ∈ _ ↔ _
 constructor
 ·intro h;obtain⟨j,hj,e⟩:=mem_iff_getElem.mp h;rw[length_take] at hj
  haveI hjl:j < l.length:=lt_of_lt_of_le hj (min_le_right _ _)
  rw[List.getElem_take] at e;rw[<- Ro hn hjl hi e];exact lt_of_lt_of_le hj (min_le_left _ _)
 ·intro h;refine mem_iff_getElem.mpr ⟨i,?_,List.getElem_take⟩;rw[length_take];exact Nat.lt_min.mpr ⟨h,hi⟩
structure Fa(aq rk:List Int)(few:Nat)(e:Int):Prop where
 be:7 ≤ e /\ e ≤ 55
 fw:few ≤ aq.length
 rl:rk.length=aq.length
 tw:∀ x ∈ aq,x ∈ rk.take few ↔ x < e
theorem Gx{aq rk:List Int}{cells:List Nat}{n:Nat}(hn:0 < n)(hl:aq.length=n)(hnd:aq.Nodup)(hin:∀ x ∈ aq,7 ≤ x /\ x ≤ 54)(hp:rk.Perm aq)(hs:rk.Pairwise (· ≤ ·)):Fa aq rk (Xl cells n) (Ra cells n rk):=by
 haveI hrl:rk.length=n:=hp.length_eq.trans hl
 haveI hrn:rk.Nodup:=hp.nodup_iff.mpr hnd
 haveI hri:∀ i,i < n->7 ≤ rk.getD i 0 /\ rk.getD i 0 ≤ 54:=fun i hi=>hin _ (hp.mem_iff.mp (mem_of_getElem? (Zi (0:Int) (hrl.symm ▸ hi))))
 haveI hfw:Xl cells n ≤ n:=le_of_lt_succ (mod_lt _ (succ_pos n))
 delta Ra
 generalize Xl cells n=few at *
 haveI hx:∀ x ∈ aq,∃ i,i < n /\ x=rk.getD i 0:=fun x hx=>by
  obtain⟨i,hi,e⟩:=mem_iff_getElem.mp (hp.mem_iff.mpr hx);exact⟨i,hrl ▸ hi,by rw[getD_eq_getElem?_getD,getElem?_eq_getElem hi];exact e.symm⟩
 haveI tk:∀ i,i < n->(rk.getD i 0 ∈ rk.take few ↔ i < few):=fun i hi=>Nz hrn (hrl.symm ▸ hi)
 haveI lt:∀ i j,i < n->j < n->(rk.getD i 0 < rk.getD j 0 ↔ i < j):=fun i j hi hj=>Jo hrn hs (hrl.symm ▸ hi) (hrl.symm ▸ hj)
 by_cases q:few=n \/ (0 < few /\ cells.getD 0 0 / 12 % 2=1)
 ·rw[if_pos q]
  haveI h0:0 < few:=q.elim (fun e=>e ▸ hn) And.left
  haveI hf1:few - 1 < n:=lt_of_lt_of_le (sub_lt h0 one_pos) hfw
  haveI hr:=hri _ hf1
  refine⟨by clear lt tk hri hx;exact⟨Int.le_trans hr.1 (Int.le_add_of_nonneg_right (by decide)),Int.add_le_add_right hr.2 1⟩,hl.symm ▸ hfw,hrl.trans hl.symm,fun x hxm=>?_⟩;obtain⟨i,hi,rfl⟩:=hx x hxm
  haveI h2:=lt (few - 1) i hf1 hi
  rw[tk i hi,Int.lt_add_one_iff,<- Int.not_lt,h2];clear lt tk hri hx h2 hr;exact⟨fun q=>not_lt.mpr (Nat.le_sub_one_of_lt q),fun q=>lt_of_le_of_lt (not_lt.mp q) (sub_lt h0 one_pos)⟩
 ·rw[if_neg q]
  haveI hf:few < n:=Nat.lt_of_le_of_ne hfw fun e=>q (.inl e)
  haveI hr:=hri _ hf
  refine⟨⟨hr.1,Int.le_trans hr.2 (by decide)⟩,hl.symm ▸ hfw,hrl.trans hl.symm,fun x hxm=>?_⟩;obtain⟨i,hi,rfl⟩:=hx x hxm;rw[tk i hi,lt i few hi hf]
theorem Ig{x:Int}(h:7 ≤ x /\ x ≤ 54):kdF x=1:=by
 delta kdF
 rw[if_neg (by rw[beq_iff_eq];exact Int.ne_of_gt (Int.lt_of_lt_of_le (by decide) h.1)),if_pos (by exact(Int.lt_of_le_of_lt h.2 (by decide)))]
theorem Ie{x e:Int}(h:7 ≤ x /\ x ≤ 54)(he:7 ≤ e /\ e ≤ 55):kdF (x + 256 - e)=if x < e then 1 else 2:=by
 delta kdF
 rw[if_neg (by rw[beq_iff_eq];exact Int.ne_of_gt (Int.sub_pos_of_lt (Int.lt_of_le_of_lt he.2 (Int.lt_of_lt_of_le (by decide) (Int.add_le_add_right h.1 256)))))]
 by_cases q:x < e
 ·rw[if_pos q,if_pos (by exact Int.sub_left_lt_of_lt_add (Int.add_lt_add_right q 256))]
 ·rw[if_neg q,if_neg (by exact Int.not_lt.mpr (Int.le_sub_left_of_add_le (Int.add_le_add_right (Int.not_lt.mp q) 256)))]
theorem Id{aq rk:List Int}{few:Nat}{e:Int}(h:Fa aq rk few e)(hin:∀ x ∈ aq,7 ≤ x /\ x ≤ 54):Sp aq e=aq.map (Q3 rk few):=by
 delta Sp Y5
 rw[map_map];refine map_congr_left fun x hx=>?_;show kdF (x + 256 - e)=Q3 rk few x;rw[Ie (hin x hx) h.be]
 delta Q3
 by_cases q:x < e
 ·rw[if_pos q,if_pos ((h.tw x hx).mpr q)]
 ·rw[if_neg q,if_neg fun w=>q ((h.tw x hx).mp w)]
end
section
open PySem PySem.Spec PySem.Calls PyProof.Rows PySem.W PySem.SeqAt
section
variable{ar:List Str}{aq:List Int}{ψ:List Nat}{ax:List (Nat × Nat)}{kds ss:List Int}
noncomputable abbrev rfG(who:Nat)(ar:List Str)(ss kds:List Int)(ψ:List Nat)(ax:List (Nat × Nat)):RunI:=rfI who ar ss kds ψ ax (Y9 ar ψ ax ar.length)
theorem Tv(hb:BOk ar aq ψ ax)(hk:kds.length=ar.length)(hk2:∀ k ∈ kds,k=1 \/ k=2){who:Nat}(hw:who < 2):RunOk (rfG who ar ss kds ψ ax):=
 ⟨⟨le_trans (by decide) hb.n.1,hb.n.2⟩,hb.nd,hw,hk,hk2,hb.ll,hb.l4,hb.dl,hb.lt,W3⟩
theorem Jg(hb:BOk ar aq ψ ax)(hk:kds.length=ar.length)(hk2:∀ k ∈ kds,k=1 \/ k=2){who:Nat}(hw:who < 2):Jd (rfG who ar ss kds ψ ax):=by
 have h:=Tv (ss:=ss) hb hk hk2 hw;obtain⟨C,E,h1,h2⟩:=Rj h (j:=130) (by decide) (by decide);refine⟨h,fun u hu=>?_,h1,h2,E.bad h rfl⟩;show((Y9 ar ψ ax ar.length).getD u ([],[])).1=_;rw[S9 hb.nd hb.lt hb.dl _ (le_refl _),Zq (show u < ar.length from hu)];show(Yi ax ar.length u).map _=_;congr 1;refine List.filter_congr fun v _=>?_;rw[decide_eq_decide,mem_cons,mem_singleton];exact⟨fun q=>q.imp Eq.symm Eq.symm,fun q=>q.imp Eq.symm Eq.symm⟩
theorem Hl{p q:Nat->Bool}:∀ {l:List Nat},(∀ x ∈ l,q x=!p x)->(l.filter p++l.filter q).Perm l
 | [],_=>.nil
 | a::l,h=>by
  have ih:=Hl fun x hx=>h x (mem_cons_of_mem _ hx);have ha:=h a mem_cons_self;rw[filter_cons,filter_cons,ha];cases p a with
  | true=>exact ih.cons a
  | false=>exact List.perm_middle.trans (ih.cons a)
theorem Mr(hb:BOk ar aq ψ ax)(hk:kds.length=ar.length)(hk2:∀ k ∈ kds,k=1 \/ k=2){s0 s1:Xx}{C D:Nat->Nat}(E:EndR (rfG 0 ar ss kds ψ ax) s0 C)(F:EndR (rfG 1 ar ss kds ψ ax) s1 D):(W8 ar.length s0.ω++W8 ar.length s1.ω).Perm (List.range ar.length):=by
 have h0:=Tv (ss:=ss) hb hk hk2 (who:=0) (by decide);have h1:=Tv (ss:=ss) hb hk hk2 (who:=1) (by decide);have hl:∀ u,u < ar.length->(ax.getD u (0,0)).1 < ar.length /\ (ax.getD u (0,0)).2 < ar.length:=fun u hu=>hb.lt _ (mem_of_getElem? (Z8 (0,0) (hb.dl.symm ▸ hu)));obtain⟨W,m,w1,w2,w3⟩:=Lg (ao:=bdR ar.length kds ψ ax hl) fun u hu=>hb.l4 _ (mem_of_getElem? (Z8 0 (hb.ll.symm ▸ hu)));unfold W8;refine Hl fun u hu=>?_;have hu:=mem_range.mp hu;have e0:=E.keep hu;have e1:=F.keep hu
 by_cases q:C u < (rfG 0 ar ss kds ψ ax).T
 ·have q1:=once h0 h1 E F rfl rfl rfl rfl rfl rfl hu q;rw[e0.mpr q,beq_false_of_ne fun w=>q1 (e1.mp w)];rfl
 ·have q1:D u < (rfG 1 ar ss kds ψ ax).T:=(w1 u hu).elim (fun w=>absurd (Q1 h0 E (hl:=hl) w2 hu w) q) fun w=>Q1 h1 F (hl:=hl) w3 hu w;rw[e1.mpr q1,beq_false_of_ne fun w=>q (e0.mp w)];rfl
theorem Nd(hb:BOk ar aq ψ ax)(hk:kds.length=ar.length)(hk2:∀ k ∈ kds,k=1 \/ k=2):((List.range 2).flatMap fun who=>W8 ar.length ((rfG who ar ss kds ψ ax).run 130).ω).Perm (List.range ar.length):=by
 obtain⟨C,E,_,_⟩:=Rj (Tv (ss:=ss) hb hk hk2 (who:=0) (by decide)) (j:=130) (by decide) (by decide);obtain⟨D,F,_,_⟩:=Rj (Tv (ss:=ss) hb hk hk2 (who:=1) (by decide)) (j:=130) (by decide) (by decide);rw[show List.range 2=[0,1] from rfl,flatMap_cons,flatMap_cons,List.flatMap_nil,append_nil];exact Mr hb hk hk2 E F
end
end
section
open PySem PySem.Spec PySem.Calls PyProof.Rows PySem.W PySem.SeqAt
theorem Kd(aq:List Int)(e:Int):(Sp aq e).length=aq.length:=by
 delta Sp Y5
 rw[length_map,length_map]
section
variable{X:Cx}{B:St}{k:Nat}{P:V->St->Prop}
theorem law_walk(G:G3 X)(hL:LamOk X)(hG:GenOk X)(hA:Rm X.A (k + 9)){pm cd doc dV kV:Value}{L fa:Addr}{xs:List Int}(hlen:xs.length ≤ 63){Q:Fl->St->Prop}
  (h:∀ loc cel tb rest,Q (.ret (.bool true)) ⟨loc,cel,[],[gtC,(136,Cell.raw (·=tabObj tb))]++rest⟩):EX (X.callee (Y4 pm cd doc dV kV) L fa) lawB ⟨lwL,lwC (some (Zs xs)),[],[(136,Cell.raw (·=tabObj #[])),gtC]⟩ Q:=by
 have hc7:(Us xs).length=7:=by delta Us;rw[length_map,length_range]
 have hc6:(Us xs).getD 6 0 ≤ 10 ^ 12:=by
  delta Us;rw[Zq (by decide)]
  exact le_trans (Rc hlen (by decide)).2 (by decide)
 refine LW.out (i:=0) ?_;refine LW.step 0 (by decide) (law_0 G hA ?_);refine LW.step 1 (by decide) (law_1 G hA hlen ?_);generalize Us xs=cells at *;obtain⟨hp5,hB⟩:=Js hc7;refine LW.step 2 (by decide) (law_2 G hA hc7 ?_);refine LW.step 3 (by decide) (law_3 G hA (le_trans hp5 (by decide)) ?_);generalize (plF cells (Zh cells)).ps=ps at *;generalize plW ps=ar at *;generalize plN ps=aq at *;generalize plL ps=ψ at *;generalize plD ps=ax at *;have hb:=hB.ok;have hn6:ar.length ≤ 6:=le_trans hb.n.2 (by decide);have h1n:0 < ar.length:=le_trans (by decide) hb.n.1;refine LW.step 4 (by decide) (law_4 G hA hb ?_);have hr15:(T4 ar ax).length ≤ 15:=by rw[Qa];exact mul_le_mul_left 3 hb.n.2
 have hrm:=N1 hb.dl hb.lt;generalize T4 ar ax=rows at *;have hr5:∀ w ∈ rows,w.length ≤ 5:=fun w hw=>hb.short w (hrm w hw);obtain⟨hts,htk,hlast⟩:=Ov (c:=cells.getD 6 0) hr15 hr5 fun w hw=>hB.hd w (hrm w hw);refine LW.step 5 (by decide) (law_5 G hA hr15 hr5 hc7 hc6 ?_);generalize Ow rows (cells.getD 6 0)=txt at *;refine LW.step 6 (by decide) (law_6 (rest:=[gtC]) G hA hL hc7 (by rw[hb.nl];exact lt_of_le_of_lt hn6 (by decide)) (by rw[show txt.length=txt.cps.toList.length from length_toList.symm];exact hts) fun a tb rk hok hrp hrs=>?_);have hE:=Gx (cells:=cells) h1n hb.nl hB.nd hb.num hrp hrs;refine LW.step 7 (by decide) (law_7 G hA hc7 ⟨h1n,hn6⟩ (hE.rl.trans hb.nl) ?_);generalize Ra cells ar.length rk=e at *;have hfw:=hE.fw;generalize Xl cells ar.length=few at *;refine LW.step 8 (by decide) (law_8 G hA hb ?_);refine LW.step 9 (by decide) (law_9 (rest:=[(136,Cell.raw (·=tabObj tb))]++Zp (qL X.w.params) a 1 txt.cps.toList []) G hG hA hb List.perm_append_comm ?_);have hkl:(Sp aq e).length=ar.length:=(Kd aq e).trans hb.nl;have hke:=Id hE hb.num
 have hk2:∀ k ∈ Sp aq e,k=1 \/ k=2:=fun k hk=>by
  rw[hke] at hk;obtain⟨x,_,rfl⟩:=mem_map.mp hk
  delta Q3;split
  ·exact .inl rfl
  ·exact .inr rfl
 generalize Sp aq e=kds at *;rw[show gtC::([(136,Cell.raw (·=tabObj tb))]++Zp (qL X.w.params) a 1 txt.cps.toList [])=[gtC,(136,Cell.raw (·=tabObj tb))]++Zp (qL X.w.params) a 1 txt.cps.toList []++[] from(append_nil _).symm];refine LW.step 10 (by decide) (law_10 (pre:=[gtC,(136,Cell.raw (·=tabObj tb))]) (post:=[]) G hA hok hb.n hb.nl hkl (hE.rl.trans hb.nl) (hb.nl ▸ hfw) (fun x hx=>Ig (hb.num x hx)) hke hts hr15 htk ?_);refine LW.step 11 (by decide) (law_11 G hA hb ?_);refine LW.step 12 (by decide) (law_12 G hA ?_);refine LW.step 13 (by decide) (law_13 (pre:=[gtC,(136,Cell.raw (·=tabObj tb))]) (post:=[]) G hA hok hb hE.be (le_trans (Uj _ _) hts) hlast (fun who hw=>Jg hb hkl hk2 hw) fun wh pi ri wo ma=>?_);rw[sub_add_cancel];refine LW.step 14 (by decide) (law_14 (pre:=[gtC,(136,Cell.raw (·=tabObj tb))]) (post:=[]) G hA hb.n (Nd hb hkl hk2) fun _=>?_);rw[append_assoc];exact h _ _ _ _
end
end
section
open PySem PySem.Spec PySem.Calls PyProof.Rows PySem.W PySem.SeqAt
theorem Sx{P:Params}{h:Heap}{prog:Program}{w:World}{Z:ZM}:∀ {xs:List Int} {vs:List Value},WellAll P h vs (xs.map fun i=>WData.int i)->VsRel prog w Z (xs.map V.int) vs
 | [],_,h=>by cases h;rfl
 | x::xs,_,h=>by
  cases h with
  | cons h1 h2=>
   cases h1;exact⟨_,_,rfl,⟨_,rfl⟩,Sx h2⟩
theorem N7(xs:List Int):ofPy (PyData.list (xs.map PyData.int))=WData.list (xs.map fun i=>WData.int i):=by
 have:∀ l:List Int,ofPys (l.map PyData.int)=l.map fun i=>WData.int i:=by
  intro l
  induction l with
  | nil=>rfl
  | cons i l ih=>show ofPy (.int i)::ofPys (l.map PyData.int)=_;rw[ih];rfl
 show WData.list (ofPys (xs.map PyData.int))=_;rw[this]
theorem U5{h:Heap}{b q:Addr}{ob:Obj}(e:h.get? b=some ob)(hne:b ≠ q):(h.hide q).get? b=some ob:=(hide_ne _ hne).trans e
theorem Wz{h:Heap}{c P q:Addr}(C:CodeHd h c P)(hne:c ≠ q):CodeHd (h.hide q) c P:=by
 obtain⟨o,vs,file,tf,flags,tg,inF,text,tt,e,r⟩:=C;exact⟨o,vs,file,tf,flags,tg,inF,text,tt,U5 e hne,r⟩
theorem Oe{h:Heap}{P b:Addr}{ob:Obj}(C:h.get? P=some (tabObj #[]))(e:h.get? b=some ob)(hc:ob.cls ≠ .none):b ≠ P:=fun e2=>by
 subst e2;rw[C] at e;cases e;exact hc rfl
open Classical in
theorem Lj{prog:Program}{w:World}{s:Shared}{p:Program}{loose:List Str}{mean:ExcName->Option Value}{mg mb:Str->Option Value}{fa a:Addr}{o:Obj}{pm cd doc:Value}{xs:List Int}{R:Result->Shared->Prop}
  (ho:s.heap.get? fa=some o) (hd:o.data=.func (Y4 pm cd doc .none .none)) (hcd:s.heap.CodeRec cd "law") (hg:s.gens=#[]) (KX:(K3 w.params).In s.heap) (T:Top p loose mean mg mb s.heap) (hT:TabsAt [(140,136),(55,51)] s.heap)
  (hw:Well w.params s.heap (.ref a) (ofPy (PyData.list (xs.map PyData.int)))) (hlen:xs.length ≤ 63)
  (hR:∀ s',OldK s.heap s'.heap->s'.os=s.os->AllBare s'.gens->R (.ok (.ret (.bool true))) s'):codeAny (model prog w) callerA (.call (.ref fa) ⟨[.ref a],[]⟩) R s:=by
 have hRm:Rm callerA 9:=⟨rfl,by decide,by decide⟩
 obtain⟨C1,C2⟩:=hT (140,136) (by exact mem_cons_self);obtain⟨D1,D2⟩:=hT (55,51) (by exact mem_cons_of_mem _ mem_cons_self);have C2:s.heap.get? 136=some (tabObj #[]):=C2;have D2:s.heap.get? 51=some (tabObj #[]):=D2;have hne:∀ {b:Addr} {ob:Obj},s.heap.get? b=some ob->ob.cls ≠ .none->b ≠ 136 /\ b ≠ 51:=fun e hc=>⟨Oe C2 e hc,Oe D2 e hc⟩
 have hhide:∀ {b:Addr} {ob:Obj},s.heap.get? b=some ob->b ≠ 136 /\ b ≠ 51->((s.heap.hide 136).hide 51).get? b=some ob:=fun e h=>U5 (U5 e h.1) h.2;have hof:∀ {b:Addr} {ob:Obj},((s.heap.hide 136).hide 51).get? b=some ob->s.heap.get? b=some ob:=fun e=>of_hide (of_hide e)
 let X:Cx:={prog:=prog,w:=w,A:=callerA,env:=callEnvC (Y4 pm cd doc .none .none) 0 0,own:=[],base:=(s.heap.hide 136).hide 51,os:=s.os}
 let Z:ZM:=fun b=>if Tb X b then none else X.base.get? b
 have zof:∀ {b:Addr} {ob:Obj},s.heap.get? b=some ob->ob.cls ≠ .none->Z b=some ob:=fun {b ob} e hc=>by
  have e2:=hhide e (hne e hc);show(if Tb X b then none else X.base.get? b)=_;rw[if_neg ?_]
  ·exact e2
  ·rintro⟨o2,vs2,h1,h2,_⟩;have h1:((s.heap.hide 136).hide 51).get? b=some o2:=h1;rw[e2] at h1;cases h1;exact hc h2
 have zin:∀ b ob,Z b=some ob->s.heap.get? b=some ob:=fun b ob e=>by
  have e:(if Tb X b then none else X.base.get? b)=some ob:=e;split at e
  ·exact nsE e
  ·exact hof e
 have g136:X.base.get? 136=none:=by
  rw[hide_ne _ (by decide)];exact Heap.hide_self _ _
 have g51:X.base.get? 51=none:=Heap.hide_self _ _
 have zno:∀ {b:Addr},X.base.get? b=none->Z b=none:=fun {b} e=>by
  show(if Tb X b then none else X.base.get? b)=none;split
  ·rfl
  ·exact e
 have G:G3 X:=⟨fun b ob e n1 n2=>hhide (KX b ob e) ⟨n1,n2⟩,(let ⟨mc,hn,e⟩:=T.nolimit;⟨mc,hn.at' fun o e=>hhide e (by decide),e⟩),⟨mb,T.b.at' (fun o e=>hhide e (by decide)),T.builtins⟩,⟨mg,T.g.at' (fun o e=>hhide e (by decide))⟩⟩
 have hg2:∃ mg,X.base.Ns mainGlobals mg /\ ∃ bm ob,mg "__builtins__" =some (.ref bm) /\ bm ≠ builtinsNs /\ bm ≠ mainGlobals /\ X.base.get? bm=some ob /\ ob.cls=.type "module" /\ ob.dict=some builtinsNs /\ ob.data=.plain:=by
  refine⟨mg,T.g.at' (fun o e=>hhide e (by decide)),?_⟩;obtain⟨bm,ob,b1,b2,b3,b4,b5,b6⟩:=T.bmain;refine⟨bm,ob,b1,b2,fun e=>?_,hhide b3 (hne b3 (by rw[b4];intro h;exact(nomatch h))),b4,b5,b6⟩;obtain⟨o',es,ep,h1,h2,_⟩:=T.g;subst e;rw[b3] at h1;cases h1;rw[b6] at h2;exact(nomatch h2)
 have D1':=Wz D1 (q:=136) (by decide);have hL:LamOk X:=⟨Wz (Wz C1 (by decide)) (by decide),hg2⟩
 have hL2:GenOk X:=⟨Wz D1' (by decide),hg2⟩
 rw[N7] at hw
 obtain⟨vs,hl,hv⟩:∃ vs:List Value,s.heap.get? a=some {cls:=.type "list",data:=.seq vs.toArray} /\ WellAll w.params s.heap vs (xs.map fun i=>WData.int i):=by
  cases hw with
  | list h1 h2=>exact⟨_,h1,h2⟩
 have h3:∃ o,Z mainGlobals=some o:=⟨_,zof (KX 3 _ (o3 w.params).2) (Y6 (n:= "dict") (by kernel_rfl))⟩
 refine Li (k:=8) X (ps:=["script"]) (ds:=[V.list (xs.map V.int)]) (Z:=Z) (sub:=[(136,Cell.raw (·=tabObj #[])),gtC]) (loc:=lwL) (cel:=lwC (some (Zs xs)))
  hRm T.nolimit ho hd (body:=lawB) rfl (by kernel_rfl) hcd (by kernel_rfl) rfl (by kernel_rfl) trivial ⟨rfl,trivial⟩
  zin (fun b ob e ht=>?_) (fun b ht=>?_) ⟨fun b ob e=>.inl (hof e),fun b ob e=>⟨ob,hof e⟩⟩ rfl ?_ h3 ?_ ?_ ?_ ?_ ?_ ?_ ⟨_,[],rfl,⟨a,vs.toArray,_,rfl,zof hl (by intro h;exact(nomatch h)),?_⟩,rfl⟩
  (law_walk (k:=0) (fa:=fa) (xs:=xs) (Q:=fun f B=>∃ loc cel tb rest,f=.ret (.bool true) /\ B=⟨loc,cel,[],[gtC,(136,Cell.raw (·=tabObj tb))]++rest⟩) G hL hL2 hRm hlen fun loc cel tb rest=>⟨loc,cel,tb,rest,rfl,rfl⟩) ?_ (by kernel_rfl) (by kernel_rfl) (by kernel_rfl)
 ·show(if Tb X b then none else X.base.get? b)=_;rw[if_neg ht];exact e
 ·show(if Tb X b then none else X.base.get? b)=_;rw[if_pos ht]
 ·exact AllBare.of_eq hg
 ·intro p hp;rcases mem_cons.mp hp with rfl | hp
  ·exact⟨_,C2,rfl⟩
  ·rw[mem_singleton] at hp;subst hp;exact⟨_,D2,#[],rfl,.inl rfl⟩
 ·show[136,51].Nodup;decide
 ·intro b hb;rcases mem_cons.mp hb with rfl | hb
  ·exact⟨_,C2⟩
  ·obtain rfl:=mem_singleton.mp hb;exact⟨_,D2⟩
 ·intro b hb;rcases mem_cons.mp hb with rfl | hb
  ·exact zno g136
  ·obtain rfl:=mem_singleton.mp hb;exact zno g51
 ·intro b hb;rcases mem_cons.mp hb with rfl | hb
  ·exact g136
  ·obtain rfl:=mem_singleton.mp hb;exact g51
 ·intro b hb;rcases mem_cons.mp hb with rfl | hb
  ·decide
  ·obtain rfl:=mem_singleton.mp hb;decide
 ·rw[List.toList_toArray];exact Sx hv
 ·rintro f d v s' B' Z' r ⟨loc,cel,tb,rest,rfl,rfl⟩ rfl hvv;cases hvv;obtain⟨ob,hob,rfl⟩:=r.mem (136,Cell.raw (·=tabObj tb)) (by exact mem_cons_of_mem _ mem_cons_self);obtain⟨ob2,hob2,tb2,rfl,_⟩:=r.mem gtC (by exact mem_cons_self);have K1:OldK (s.heap.hide 136) s'.heap:=T6 r.old (by decide) (D1'.tab (U5 D2 (by decide))) ⟨tb2,by simp⟩ hob2;exact hR s' (T6 K1 (by decide) (C1.tab C2) ⟨tb,by simp⟩ hob) r.os r.gens
end
section
open PySem PySem.W PyProof.Rows
set_option maxHeartbeats 0
set_option tactic.hygienic true in
theorem S7:PySem.Challenge.rw_wz0015_01.Holds:=Gm (by
 intro w s₀ s₁ mg mb G Y fa o pm cd doc dV kV ho hd hcd hD hmg hg args vals as hpre hlay hrd hwl hlo
 haveI KX:=km_in_of (K:=K3) (e:=Px) (ts:=[136,51]) Y
 haveI hT8:=km_tabs_of (K:=K3) (e:=Px) (ts:=[136,51]) Y
 haveI X:=(Ground.X G).1
 haveI V:=(Ground.X G).2
 refine Ground.open G ?_;intro T ao D TE TW
 try (refine guard_noD D (by decide +kernel) ?_;clear D)
 haveI hT9:TabsAt [(140,136),(55,51)] s₁.heap:=forall_mem_cons.mpr ⟨⟨codeHd_of_K (c:=140) (P:=136) KX (by kernel_rfl),hT8 136 (by exact mem_cons_self)⟩,forall_mem_cons.mpr ⟨⟨codeHd_of_K (c:=55) (P:=51) KX (by kernel_rfl),hT8 51 (by exact mem_cons_of_mem _ mem_cons_self)⟩,fun _ h=>nomatch h⟩⟩
 wrow_args hpre hlay hrd hwl hlo
 all_goals (
  first | refine callC_kw (enter_call ?_) | refine enter_call ?_)
 rename_i xs hs' hlay0 hL1 hr1 hl2 w4 w3 a w1' w0 hLL ra hw r0 hI hr hcond hcond2
 haveI dV0:dV=.none:=by
  rcases hD.pos with⟨_,h⟩ | ⟨h,_⟩
  ·exact h
  ·exact absurd rfl h
 haveI kV0:kV=.none:=by
  rcases hD.kw with⟨_,h⟩ | ⟨h,_⟩
  ·exact h
  ·exact absurd rfl h
 subst dV0 kV0;refine Lj ho (by rw[hd];rfl) hcd hg KX T (by assumption) hw (by exact ofNat_le.mp (Int.not_lt.mp hcond)) fun s' h1 h2 h3=>?_;refine⟨.inl ⟨.bool true,.bool true,[],rfl,?_,?_,?_,?_⟩,h1,h2,h3⟩
 ·intro cls;rfl
 ·first | exact rfl | exact⟨rfl,rfl⟩ | constructor | (unfold ReadsW;simp) | (unfold ReadsW;exact⟨rfl,rfl⟩)
 ·kernel_rfl
 ·exact fun _=>⟨nodup_nil,fun a h=>by exact mnE h⟩)
#print axioms S7
end
end Mine
end
theorem PySem.Challenge.cw_wz0015_01_holds : PySem.Challenge.rw_wz0015_01.Holds :=
 Mine.S7

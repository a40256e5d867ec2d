import PyProof.Rows.All
import Wide.All
import OpenK.AllK
import Wide.FinOn
import Lean
import PySem.Challenge.RW_wz0015_03
set_option Elab.async false
set_option maxRecDepth 100000
set_option linter.unusedVariables false
set_option pp.deepTerms false
set_option pp.deepTerms.threshold 4
section
open PySem PySem.Spec PySem.Calls PyProof.Rows PySem.W
namespace Mine

noncomputable abbrev ZM := Addr → Option Obj
/-- every object that is no cell stays -/
noncomputable def ZM.leC (Z Z' : ZM) : Prop := ∀ a o, Z a = some o → (∀ u, o.data ≠ .cell u) → Z' a = some o

/-- abstract values -/
inductive V where
  | none
  | bool (b : Bool)
  | int (i : Int)
  | str (x : Str)
  | tup (l : List V)
  | list (l : List V)
  | sdict (ks : List Str) (vs : List V)
  | idict (ks : List Int) (vs : List V)
  | rng (a b : Int)
  | slc (l u s : Option Int)
  | view (items : Bool) (d : V)
  | ref (a : Addr)
  | lit (v : Value)
  | raw (p : ZM → Value → Prop) (h : ∀ Z Z' v, Z.leC Z' → p Z v → p Z' v)

noncomputable def ZDict {prog : Program} {w : World} {K : Type} [DecidableEq K] (knd : KeyKind prog w K) (Z : ZM) (a : Addr) (kvs : List (K × Value)) : Prop :=
  ∃ o es ep, Z a = some o ∧ o.ExactDict ∧ o.data = .dict es ep ∧ KeysOf knd es ∧ Pairs knd es.toList kvs ∧ (kvs.map (·.1)).Nodup

mutual
noncomputable def VRel (prog : Program) (w : World) (Z : ZM) : V → Value → Prop
  | .none, v => v = .none
  | .bool b, v => v = .bool b
  | .int i, v => ∃ t, v = .int i t
  | .str x, v => ∃ t, v = .str x t
  | .tup l, v => ∃ a its n, v = .ref a ∧ Z a = some { cls := .type "tuple", data := .seq its n } ∧ VsRel prog w Z l its.toList
  | .list l, v => ∃ a its n, v = .ref a ∧ Z a = some { cls := .type "list", data := .seq its n } ∧ VsRel prog w Z l its.toList
  | .sdict ks l, v => ∃ a vs, v = .ref a ∧ 3 < a ∧ ZDict (strKind prog w) Z a (ks.zip vs) ∧ ks.length = vs.length ∧ VsRel prog w Z l vs
  | .idict ks l, v => ∃ a vs, v = .ref a ∧ 3 < a ∧ ZDict (intKind prog w) Z a (ks.zip vs) ∧ ks.length = vs.length ∧ VsRel prog w Z l vs
  | .rng a b, v => ∃ r t u x, v = .ref r ∧ Z r = some { cls := .type "range", data := .fields #[.int a t, .int b u, .int 1 x] }
  | .slc l u s, v => ∃ a lv uv sv, v = .ref a ∧ Z a = some { cls := .type "slice", data := .fields #[lv, uv, sv] } ∧ IsPart lv l ∧ IsPart uv u ∧ IsPart sv s
  | .view b d, v => ∃ a da, v = .ref a ∧ Z a = some { cls := .type (if b then "dict_items" else "dict_values"), data := .fields #[.ref da] } ∧ VRel prog w Z d (.ref da)
  | .ref a, v => v = .ref a
  | .lit x, v => v = x
  | .raw p _, v => p Z v
noncomputable def VsRel (prog : Program) (w : World) (Z : ZM) : List V → List Value → Prop
  | [], vs => vs = []
  | d :: l, vs => ∃ v r, vs = v :: r ∧ VRel prog w Z d v ∧ VsRel prog w Z l r
end

noncomputable def ZM.le (Z Z' : ZM) : Prop := ∀ a o, Z a = some o → Z' a = some o
theorem ZM.le.leC {Z Z' : ZM} (h : Z.le Z') : Z.leC Z' := fun a o e _ => h a o e

theorem ZDict.mono {prog : Program} {w : World} {K : Type} [DecidableEq K] {knd : KeyKind prog w K} {Z Z' : ZM} {a : Addr} {kvs : List (K × Value)} (hz : Z.le Z') (x : ZDict knd Z a kvs) : ZDict knd Z' a kvs :=
  let ⟨o, es, ep, h, r⟩ := x; ⟨o, es, ep, hz _ _ h, r⟩

section
variable {prog : Program} {w : World}
mutual
theorem VRel.mono {Z Z' : ZM} (hz : Z.le Z') : ∀ {d : V} {v : Value}, VRel prog w Z d v → VRel prog w Z' d v
  | .none, _, h => h
  | .bool _, _, h => h
  | .int _, _, h => h
  | .str _, _, h => h
  | .tup _, _, h => by obtain ⟨a, its, n, e, z, r⟩ := h; exact ⟨a, its, n, e, hz _ _ z, VsRel.mono hz r⟩
  | .list _, _, h => by obtain ⟨a, its, n, e, z, r⟩ := h; exact ⟨a, its, n, e, hz _ _ z, VsRel.mono hz r⟩
  | .sdict _ _, _, h => by obtain ⟨a, vs, e, lo, z, l, r⟩ := h; exact ⟨a, vs, e, lo, z.mono hz, l, VsRel.mono hz r⟩
  | .idict _ _, _, h => by obtain ⟨a, vs, e, lo, z, l, r⟩ := h; exact ⟨a, vs, e, lo, z.mono hz, l, VsRel.mono hz r⟩
  | .rng _ _, _, h => by obtain ⟨r, t, u, x, e, z⟩ := h; exact ⟨r, t, u, x, e, hz _ _ z⟩
  | .slc _ _ _, _, h => by obtain ⟨a, lv, uv, sv, e, z, q⟩ := h; exact ⟨a, lv, uv, sv, e, hz _ _ z, q⟩
  | .view _ d, _, h => by obtain ⟨a, da, e, z, q⟩ := h; exact ⟨a, da, e, hz _ _ z, VRel.mono hz q⟩
  | .ref _, _, h => h
  | .lit _, _, h => h
  | .raw _ k, _, h => k _ _ _ hz.leC h
theorem VsRel.mono {Z Z' : ZM} (hz : Z.le Z') : ∀ {l : List V} {vs : List Value}, VsRel prog w Z l vs → VsRel prog w Z' l vs
  | [], _, h => h
  | _ :: _, _, h => by obtain ⟨v, r, e, h, q⟩ := h; exact ⟨v, r, e, VRel.mono hz h, VsRel.mono hz q⟩
end
theorem VsRel.length {Z : ZM} : ∀ {l : List V} {vs : List Value}, VsRel prog w Z l vs → vs.length = l.length
  | [], _, h => by cases h; rfl
  | _ :: _, _, ⟨v, r, e, h, q⟩ => by subst e; simp [VsRel.length q]
theorem VsRel.get {Z : ZM} : ∀ {l : List V} {vs : List Value}, VsRel prog w Z l vs → ∀ {i : Nat} {d : V}, l[i]? = some d → ∃ v, vs[i]? = some v ∧ VRel prog w Z d v
  | [], _, _, i, d, e => by simp at e
  | x :: l, _, ⟨v, r, e, h, q⟩, i, d, hd => by
    subst e
    cases i with
    | zero => simp at hd; subst hd; exact ⟨v, by simp, h⟩
    | succ i => simp at hd; obtain ⟨u, hu, hr⟩ := VsRel.get q hd; exact ⟨u, by simpa using hu, hr⟩
theorem VsRel.of_get {Z : ZM} : ∀ {l : List V} {vs : List Value}, vs.length = l.length → (∀ (i : Nat) d v, l[i]? = some d → vs[i]? = some v → VRel prog w Z d v) → VsRel prog w Z l vs
  | [], vs, h, _ => by cases vs with | nil => rfl | cons => simp at h
  | d :: l, [], h, _ => by simp at h
  | d :: l, v :: vs, h, k => ⟨v, vs, rfl, k 0 d v (by simp) (by simp), VsRel.of_get (by simpa using h) fun i d' v' h1 h2 => k (i + 1) d' v' (by simpa using h1) (by simpa using h2)⟩
theorem VsRel.append {Z : ZM} : ∀ {l l' : List V} {vs vs' : List Value}, VsRel prog w Z l vs → VsRel prog w Z l' vs' → VsRel prog w Z (l ++ l') (vs ++ vs')
  | [], _, _, _, h, h' => by cases h; simpa using h'
  | _ :: _, _, _, _, ⟨v, r, e, h, q⟩, h' => by subst e; exact ⟨v, r ++ _, rfl, h, VsRel.append q h'⟩
end

/-- mutable cells of the ledger -/
inductive Cell where
  | list (l : List V)
  | sdict (ks : List Str) (vs : List V)
  | idict (ks : List Int) (vs : List V)
  | ns (l : List (Str × V))
  | raw (p : Obj → Prop)

structure St where
  loc : List (Str × Option V)
  cel : List (Str × Option V)
  cap : List (Str × V)
  mem : List (Addr × Cell)

structure Cx where
  prog : Program
  w : World
  A : Around
  env : Env
  own : List Addr
  base : Heap
  os : OsState

noncomputable def ORel (prog : Program) (w : World) (Z : ZM) : Option V → Option Value → Prop
  | none, _ => True
  | some d, v => ∃ u, v = some u ∧ VRel prog w Z d u
theorem ORel.mono {prog : Program} {w : World} {Z Z' : ZM} (hz : Z.le Z') : ∀ {d : Option V} {v : Option Value}, ORel prog w Z d v → ORel prog w Z' d v
  | none, _, _ => trivial
  | some _, _, ⟨u, e, h⟩ => ⟨u, e, h.mono hz⟩

noncomputable def CellRel (prog : Program) (w : World) (Z : ZM) (h : Heap) (a : Addr) : Cell → Prop
  | .list l => ∃ its, h.PlainList a its ∧ VsRel prog w Z l its.toList
  | .sdict ks l => ∃ vs, h.DictOf (strKind prog w) a (ks.zip vs) ∧ ks.length = vs.length ∧ VsRel prog w Z l vs
  | .idict ks l => ∃ vs, h.DictOf (intKind prog w) a (ks.zip vs) ∧ ks.length = vs.length ∧ VsRel prog w Z l vs
  | .ns l => ∃ m, h.Ns1 a m ∧ (∀ x d, (x, d) ∈ l → ∃ v, m x = some v ∧ VRel prog w Z d v) ∧ ∀ x, x ∉ l.map (·.1) → m x = none
  | .raw p => ∃ o, h.get? a = some o ∧ p o

theorem CellRel.mono {prog : Program} {w : World} {Z Z' : ZM} {h h' : Heap} {a : Addr} (hz : Z.le Z') (hk : ∀ o, h.get? a = some o → h'.get? a = some o) : ∀ {c : Cell}, CellRel prog w Z h a c → CellRel prog w Z' h' a c
  | .list _, h => by obtain ⟨its, p, r⟩ := h; exact ⟨its, p.at hk, r.mono hz⟩
  | .sdict _ _, h => by obtain ⟨vs, ⟨o, es, ep, e, x⟩, l, r⟩ := h; exact ⟨vs, ⟨o, es, ep, hk _ e, x⟩, l, r.mono hz⟩
  | .idict _ _, h => by obtain ⟨vs, ⟨o, es, ep, e, x⟩, l, r⟩ := h; exact ⟨vs, ⟨o, es, ep, hk _ e, x⟩, l, r.mono hz⟩
  | .ns _, h => by
    obtain ⟨m, n, r, q'⟩ := h
    exact ⟨m, n.at hk, fun x d hx => by obtain ⟨v, hv, q⟩ := r x d hx; exact ⟨v, hv, q.mono hz⟩, q'⟩
  | .raw _, h => by obtain ⟨o, e, r⟩ := h; exact ⟨o, hk _ e, r⟩

noncomputable def keys (m : List (Addr × Cell)) : List Addr := m.map (·.1)

/-- the tables of code objects: they may grow -/
noncomputable def Tb (X : Cx) (a : Addr) : Prop := ∃ o vs, X.base.get? a = some o ∧ o.cls = .none ∧ o.data = .fields vs

noncomputable def foot (X : Cx) (σ : St) : List Addr := X.env.locals :: (X.own ++ keys σ.mem)

structure Frame (X : Cx) (σ : St) : Prop where
  lnd : (σ.loc.map (·.1)).Nodup
  lk : ∀ p ∈ σ.loc, X.env.kindOf p.1 = some .local
  ck : ∀ p ∈ σ.cel, X.env.kindOf p.1 = some .cell
  cnd : (σ.cel.map (·.1)).Nodup
  cinj : ∀ x y c, x ∈ σ.cel.map (·.1) → y ∈ σ.cel.map (·.1) → X.env.cells.lookup x = some c → X.env.cells.lookup y = some c → x = y
  pk : ∀ p ∈ σ.cap, (X.env.kindOf p.1 = some .cell ∨ X.env.kindOf p.1 = some .free)
  dbg : ∀ x ∈ σ.loc.map (·.1) ++ (σ.cel.map (·.1) ++ σ.cap.map (·.1)), (x == ("__debug__" : Str)) = false ∧ (x == ("__classdict__" : Str)) = false
  kind : X.env.scope.kind = .function

structure Rel (X : Cx) (σ : St) (Z : ZM) (s : Shared) : Prop where
  fr : Frame X σ
  zin : ∀ a o, Z a = some o → s.heap.get? a = some o
  st : ∀ a o, X.base.get? a = some o → ¬ Tb X a → Z a = some o
  ztab : ∀ a, Tb X a → Z a = none
  old : OldK X.base s.heap
  os : s.os = X.os
  gens : AllBare s.gens
  ns : ∃ m, s.heap.Ns X.env.locals m ∧ ∀ x ov, (x, ov) ∈ σ.loc → ORel X.prog X.w Z ov (m x)
  cells : ∀ x ov, (x, ov) ∈ σ.cel → ∃ c uo, c ∈ X.own ∧ X.env.cells.lookup x = some c ∧ s.heap.IsCell c uo ∧ ORel X.prog X.w Z ov uo
  cap : ∀ x d, (x, d) ∈ σ.cap → ∃ c o v, X.env.cells.lookup x = some c ∧ Z c = some o ∧ o.data = .cell (some v) ∧ VRel X.prog X.w Z d v
  ownc : ∀ c ∈ X.own, ∃ uo, s.heap.IsCell c uo
  mem : ∀ p ∈ σ.mem, CellRel X.prog X.w Z s.heap p.1 p.2
  nd : (foot X σ).Nodup
  zfoot : ∀ a ∈ foot X σ, Z a = none
  bfoot : ∀ a ∈ foot X σ, X.base.get? a = none
  ex : ∀ a ∈ foot X σ, ∃ o, s.heap.get? a = some o
  g3 : ∃ o, Z mainGlobals = some o
  low : ∀ a ∈ keys σ.mem, 3 < a

structure Ext (X : Cx) (σ : St) (Z : ZM) (s : Shared) (σ' : St) (Z' : ZM) (s' : Shared) : Prop where
  rel : Rel X σ' Z' s'
  le : Z.le Z'
  keep : ∀ a o, s.heap.get? a = some o → a ∉ foot X σ → ¬ Tb X a → s'.heap.get? a = some o
  new : ∀ a ∈ keys σ'.mem, a ∈ keys σ.mem ∨ s.heap.get? a = none
  znew : ∀ a o, Z' a = some o → Z a = some o ∨ a ∈ keys σ.mem ∨ s.heap.get? a = none

theorem Ext.refl {X : Cx} {σ : St} {Z : ZM} {s : Shared} (r : Rel X σ Z s) : Ext X σ Z s σ Z s :=
  ⟨r, fun _ _ h => h, fun _ _ e _ _ => e, fun _ h => .inl h, fun _ _ h => .inl h⟩

/-- what is not there now was not there before, but for a cell of the ledger -/
theorem Ext.gone {X : Cx} {σ σ' : St} {Z Z' : ZM} {s s' : Shared} (x : Ext X σ Z s σ' Z' s') {a : Addr} (h : s'.heap.get? a = none) : a ∈ keys σ.mem ∨ s.heap.get? a = none := by
  cases e : s.heap.get? a with
  | none => exact .inr rfl
  | some o =>
    by_cases ht : Tb X a
    · obtain ⟨ob, _, hb, _⟩ := ht
      obtain ⟨o2, h2⟩ := x.rel.old.there _ _ hb
      rw [h] at h2; cases h2
    · by_cases hf : a ∈ foot X σ
      · unfold foot at hf
        have ex := x.rel.ex
        unfold foot at ex
        rcases List.mem_cons.mp hf with rfl | hf
        · obtain ⟨o2, h2⟩ := ex _ List.mem_cons_self; rw [h] at h2; cases h2
        · rcases List.mem_append.mp hf with hf | hf
          · obtain ⟨o2, h2⟩ := ex _ (List.mem_cons_of_mem _ (List.mem_append_left _ hf)); rw [h] at h2; cases h2
          · exact .inl hf
      · rw [x.keep a o e hf ht] at h; cases h

theorem Ext.footNew {X : Cx} {σ σ' : St} {Z Z' : ZM} {s s' : Shared} (x : Ext X σ Z s σ' Z' s') {a : Addr} (h : a ∈ foot X σ') : a ∈ foot X σ ∨ s.heap.get? a = none := by
  unfold foot at h ⊢
  rcases List.mem_cons.mp h with rfl | h
  · exact .inl (by simp)
  · rcases List.mem_append.mp h with h | h
    · exact .inl (by simp [h])
    · rcases x.new a h with h | h
      · exact .inl (by simp [h])
      · exact .inr h

theorem Ext.trans {X : Cx} {σ σ' σ'' : St} {Z Z' Z'' : ZM} {s s' s'' : Shared} (x : Ext X σ Z s σ' Z' s') (y : Ext X σ' Z' s' σ'' Z'' s'') : Ext X σ Z s σ'' Z'' s'' where
  rel := y.rel
  le := fun a o h => y.le a o (x.le a o h)
  keep := fun a o e hn ht => y.keep a o (x.keep a o e hn ht) (fun hf => by
    rcases x.footNew hf with h | h
    · exact hn h
    · rw [h] at e; cases e) ht
  new := fun a hk => by
    rcases y.new a hk with h | h
    · exact x.new a h
    · exact x.gone h
  znew := fun a o hz => by
    rcases y.znew a o hz with h | h | h
    · exact x.znew a o h
    · exact .inr (x.new a h)
    · exact .inr (x.gone h)

noncomputable def Post {α β : Type} (X : Cx) (R : ZM → β → α → Prop) (σ : St) (Z : ZM) (s : Shared) (P : β → St → Prop) : α → Shared → Prop :=
  fun a s' => ∃ Z' σ' b, Ext X σ Z s σ' Z' s' ∧ R Z' b a ∧ P b σ'

noncomputable abbrev Nope : Value → Shared → Prop := fun _ _ => False

noncomputable def J {α β : Type} (X : Cx) (R : ZM → β → α → Prop) (t : Sem α) (σ : St) (P : β → St → Prop) : Prop :=
  ∀ Z s, Rel X σ Z s → wpAny (model X.prog X.w) X.A t (Post X R σ Z s P) Nope s

section
variable {α β : Type} {X : Cx} {R : ZM → β → α → Prop} {t : Sem α} {σ σ' : St} {P P' : β → St → Prop} {Z Z' : ZM} {s s' : Shared}

theorem J.use {Q : α → Shared → Prop} (h : J X R t σ P) (hr : Rel X σ Z s) (k : ∀ Z' s' σ' b a, Ext X σ Z s σ' Z' s' → R Z' b a → P b σ' → Q a s') : wpAny (model X.prog X.w) X.A t Q Nope s :=
  wpAny_mono (h Z s hr) (fun _ _ q => by obtain ⟨_, _, _, x, r, p⟩ := q; exact k _ _ _ _ _ x r p) fun _ _ h => h

theorem wpPost {Q : α → Shared → Prop} {s0 : Shared} (h : wpAny (model X.prog X.w) X.A t (Post X R σ Z s P) Nope s0) (k : ∀ Z' s' σ' b a, Ext X σ Z s σ' Z' s' → R Z' b a → P b σ' → Q a s') : wpAny (model X.prog X.w) X.A t Q Nope s0 :=
  wpAny_mono h (fun _ _ q => by obtain ⟨_, _, _, x, r, p⟩ := q; exact k _ _ _ _ _ x r p) fun _ _ h => h
theorem Post.lift {a : α} (x : Ext X σ Z s σ' Z' s') {s'' : Shared} (h : Post X R σ' Z' s' P a s'') : Post X R σ Z s P a s'' :=
  let ⟨Z1, σ1, b, y, r⟩ := h; ⟨Z1, σ1, b, x.trans y, r⟩

theorem J.after (h : J X R t σ' P) (x : Ext X σ Z s σ' Z' s') : wpAny (model X.prog X.w) X.A t (Post X R σ Z s P) Nope s' :=
  wpAny_mono (h Z' s' x.rel) (fun _ _ q => q.lift x) fun _ _ h => h

theorem J.mono (h : J X R t σ P) (k : ∀ b σ, P b σ → P' b σ) : J X R t σ P' := fun Z s r =>
  wpAny_mono (h Z s r) (fun _ _ ⟨Z', σ', b, x, q, p⟩ => ⟨Z', σ', b, x, q, k _ _ p⟩) fun _ _ h => h

/-- the tokens may change -/
theorem Rel.toks {tk : Nat} (r : Rel X σ Z s) : Rel X σ Z { s with toks := tk } :=
  ⟨r.fr, r.zin, r.st, r.ztab, r.old, r.os, r.gens, r.ns, r.cells, r.cap, r.ownc, r.mem, r.nd, r.zfoot, r.bfoot, r.ex, r.g3, r.low⟩
theorem Ext.toks {tk : Nat} (x : Ext X σ Z s σ' Z' s') : Ext X σ Z s σ' Z' { s' with toks := tk } :=
  ⟨x.rel.toks, x.le, x.keep, x.new, x.znew⟩
end

noncomputable def RV (X : Cx) : ZM → V → Value → Prop := VRel X.prog X.w
noncomputable def RVs (X : Cx) : ZM → List V → List Value → Prop := VsRel X.prog X.w
noncomputable def REq {α : Type} : ZM → α → α → Prop := fun _ a b => a = b

inductive Fl where
  | next | brk | cont
  | ret (d : V)
noncomputable def RFl (X : Cx) (Z : ZM) : Fl → Flow → Prop
  | .next, f => f = .next
  | .brk, f => f = .brk
  | .cont, f => f = .cont
  | .ret d, f => ∃ v, f = .ret v ∧ VRel X.prog X.w Z d v

noncomputable def EV (X : Cx) (e : PySem.Expr) (σ : St) (P : V → St → Prop) : Prop := J X (RV X) (eval e X.env) σ P
noncomputable def ET (X : Cx) (e : PySem.Expr) (σ : St) (P : Bool → St → Prop) : Prop := J X (REq (α := Bool)) (isTrue e X.env (eval e X.env)) σ P
noncomputable def EX (X : Cx) (b : List Stmt) (σ : St) (P : Fl → St → Prop) : Prop := J X (RFl X) (execs b X.env) σ P
noncomputable def ES (X : Cx) (b : Stmt) (σ : St) (P : Fl → St → Prop) : Prop := J X (RFl X) (exec b X.env) σ P

end Mine
end
section
open PySem PySem.Spec PySem.Calls PyProof.Rows PySem.W
namespace Mine
theorem Rel.sz3 {X : Cx} {σ : St} {Z : ZM} {s : Shared} (r : Rel X σ Z s) : 3 < s.heap.objs.size := let ⟨_, h⟩ := r.g3; Heap.lt_size (r.zin _ _ h)
theorem Rel.lt {X : Cx} {σ : St} {Z : ZM} {s : Shared} (r : Rel X σ Z s) (a : Addr) (h : a ∈ foot X σ) : a < s.heap.objs.size := let ⟨_, ho⟩ := r.ex a h; Heap.lt_size ho
section
variable {X : Cx} {σ σ' : St} {Z Z' : ZM} {s s' : Shared}

/-! locals -/
inductive Up (x : Str) (v : V) : List (Str × Option V) → List (Str × Option V) → Prop
  | head {u l} : Up x v ((x, u) :: l) ((x, some v) :: l)
  | tail {p l l'} : Up x v l l' → Up x v (p :: l) (p :: l')
theorem Up.keys {x v l l'} (h : Up x v l l') : l'.map (·.1) = l.map (·.1) := by
  induction h with
  | head => rfl
  | tail _ ih => simp [ih]
theorem Up.has {x v l l'} (h : Up x v l l') : ∃ u, (x, u) ∈ l := by
  induction h with
  | head => exact ⟨_, .head _⟩
  | tail _ ih => obtain ⟨u, hu⟩ := ih; exact ⟨u, .tail _ hu⟩
theorem Up.mem {x v l l'} (h : Up x v l l') : (l.map (·.1)).Nodup → ∀ y ov, (y, ov) ∈ l' → (y = x ∧ ov = some v) ∨ ((y, ov) ∈ l ∧ y ≠ x) := by
  induction h with
  | @head u l =>
    intro nd y ov hm
    rcases List.mem_cons.mp hm with h | h
    · cases h; exact .inl ⟨rfl, rfl⟩
    · refine .inr ⟨.tail _ h, ?_⟩
      rintro rfl
      simp only [List.map_cons, List.nodup_cons] at nd
      exact nd.1 (List.mem_map_of_mem (f := (·.1)) h)
  | @tail p l l' hu ih =>
    intro nd y ov hm
    rcases List.mem_cons.mp hm with h | h
    · subst h
      refine .inr ⟨.head _, ?_⟩
      rintro rfl
      obtain ⟨u, hu⟩ := hu.has
      simp only [List.map_cons, List.nodup_cons] at nd
      exact nd.1 (List.mem_map_of_mem (f := (·.1)) hu)
    · simp only [List.map_cons, List.nodup_cons] at nd
      rcases ih nd.2 y ov h with h | h
      · exact .inl h
      · exact .inr ⟨.tail _ h.1, h.2⟩

theorem Rel.nonempty (r : Rel X σ Z s) {p : Addr × Cell} (hp : p ∈ σ.mem) : p.1 ∈ foot X σ := by
  unfold foot keys; simp; exact .inr (.inr ⟨p.2, hp⟩)

theorem foot_keep (r : Rel X σ Z s) {h' : Heap} (hs : ∀ b o, s.heap.get? b = some o → b ∉ foot X σ → ¬ Tb X b → h'.get? b = some o) : ∀ b o, Z b = some o → h'.get? b = some o := fun b o e =>
  hs b o (r.zin b o e) (fun hf => by rw [r.zfoot b hf] at e; cases e) (fun ht => by rw [r.ztab b ht] at e; cases e)

/-- the base's heap is as it was, where a step keeps all but the footprint -/
theorem Rel.oldKeep (r : Rel X σ Z s) {h' : Heap} (hs : ∀ b o, s.heap.get? b = some o → b ∉ foot X σ → h'.get? b = some o) : OldK X.base h' := by
  have k : ∀ b o o', X.base.get? b = some o → s.heap.get? b = some o' → h'.get? b = some o' := fun b o o' e e' =>
    hs b o' e' fun hf => by rw [r.bfoot b hf] at e; cases e
  refine ⟨fun b o e => ?_, fun b o e => let ⟨o', ho'⟩ := r.old.there b o e; ⟨o', k b o o' e ho'⟩⟩
  rcases r.old.old b o e with x | ⟨t, hc, vs, more, hv, x⟩ | ⟨rfl, hc, ⟨o', es, n, ho', r'⟩, z⟩
  · exact .inl (k _ _ _ e x)
  · exact .inr (.inl ⟨t, hc, vs, more, hv, k _ _ _ e x⟩)
  · refine .inr (.inr ⟨rfl, hc, ⟨o', es, n, k _ _ _ e ho', r'⟩, fun key => ?_⟩)
    rw [OldK.staticOf_congr ((k _ _ _ e ho').trans ho'.symm) key]; exact z key

/-- one more object, frozen or of no concern -/
theorem Ext.push (x : Ext X σ Z s σ' Z' s') (o : Obj) : Ext X σ Z s σ' Z' { s' with heap := s'.heap.push o } := by
  have r := x.rel
  have kp : ∀ b o', s'.heap.get? b = some o' → (s'.heap.push o).get? b = some o' := fun b o' e => Heap.get?_push_of_some _ e
  refine ⟨⟨r.fr, fun a o' e => kp _ _ (r.zin a o' e), r.st, r.ztab, r.old.step_keeps kp, r.os, r.gens, ?_, ?_, r.cap, fun c hc => ?_, ?_, r.nd, r.zfoot, r.bfoot, ?_, r.g3, r.low⟩, x.le, ?_, x.new, x.znew⟩
  · obtain ⟨m, hn, hm⟩ := r.ns; exact ⟨m, hn.push o, hm⟩
  · intro y ov hy; obtain ⟨c, uo, ho, hc, hv, hr⟩ := r.cells y ov hy; exact ⟨c, uo, ho, hc, hv.keeps kp, hr⟩
  · obtain ⟨uo, hv⟩ := r.ownc c hc; exact ⟨uo, hv.keeps kp⟩
  · intro p hp; exact (r.mem p hp).mono (fun _ _ h => h) (fun o' e => kp _ _ e)
  · intro a ha; obtain ⟨o', ho'⟩ := r.ex a ha; exact ⟨o', kp _ _ ho'⟩
  · intro a o' e hn ht; exact kp _ _ (x.keep a o' e hn ht)

noncomputable def Zput (Z : ZM) (a : Addr) (o : Obj) : ZM := fun b => if b = a then some o else Z b
theorem Zput.le {a : Addr} {o : Obj} (h : ∀ o', Z a = some o' → o' = o) : Z.le (Zput Z a o) := fun b o' e => by
  unfold Zput; split
  · subst_vars; rw [h o' e]
  · exact e
theorem Zput.self {a : Addr} {o : Obj} : Zput Z a o a = some o := by simp [Zput]

/-- a new object is frozen at once -/
theorem Ext.pushZ (x : Ext X σ Z s σ' Z' s') (o : Obj) (hf : o.isFreed = false := by rfl) : Ext X σ Z s σ' (Zput Z' s'.heap.objs.size o) { s' with heap := s'.heap.push o } ∧ Z'.le (Zput Z' s'.heap.objs.size o) := by
  have y := x.push o
  have r := y.rel
  have hz : Z' s'.heap.objs.size = none := by
    cases h : Z' s'.heap.objs.size with
    | none => rfl
    | some o' => exact absurd (Heap.lt_size (x.rel.zin _ _ h)) (Nat.lt_irrefl _)
  have le : Z'.le (Zput Z' s'.heap.objs.size o) := Zput.le fun o' e => by rw [hz] at e; cases e
  have nf : ∀ a ∈ foot X σ', a ≠ s'.heap.objs.size := fun a ha e => absurd (x.rel.lt a ha) (by rw [e]; exact Nat.lt_irrefl _)
  refine ⟨⟨⟨r.fr, ?_, fun a o' e ht => le _ _ (r.st a o' e ht), ?_, r.old, r.os, r.gens, ?_, ?_, ?_, r.ownc, ?_, r.nd, ?_, r.bfoot, r.ex, (let ⟨o3, h3⟩ := r.g3; ⟨o3, le _ _ h3⟩), r.low⟩, fun a o' e => le _ _ (x.le a o' e), y.keep, y.new, fun a o' e => ?_⟩, le⟩
  · intro a o' e
    unfold Zput at e
    split at e
    · subst_vars; cases e; exact Heap.get?_push_size _ hf
    · exact r.zin _ _ e
  · intro a ha
    unfold Zput
    split
    · subst_vars
      obtain ⟨ob, _, hb, _⟩ := ha
      exact absurd (Nat.lt_of_lt_of_le (Heap.lt_size (x.rel.old.there _ ob hb).choose_spec) (Nat.le_refl _)) (Nat.lt_irrefl _)
    · exact r.ztab a ha
  · obtain ⟨m, hn, hm⟩ := r.ns; exact ⟨m, hn, fun y ov h => (hm y ov h).mono le⟩
  · intro y ov hy; obtain ⟨c, uo, ho, hc, hv, hr⟩ := r.cells y ov hy; exact ⟨c, uo, ho, hc, hv, hr.mono le⟩
  · intro y d hy; obtain ⟨c, oc, v, hc, hz, hd, hr⟩ := r.cap y d hy; exact ⟨c, oc, v, hc, le _ _ hz, hd, hr.mono le⟩
  · intro p hp; exact (r.mem p hp).mono le (fun _ e => e)
  · intro a ha
    unfold Zput
    rw [if_neg (nf a ha)]
    exact x.rel.zfoot a ha
  · unfold Zput at e
    split at e
    · subst_vars
      exact .inr (x.gone (Heap.get?_none_of_le (Nat.le_refl _)))
    · exact x.znew _ _ e

theorem Rel.setLoc (r : Rel X σ Z s) {x : Str} {d : V} {v : Value} {loc' : List (Str × Option V)} (hu : Up x d σ.loc loc') (hv : VRel X.prog X.w Z d v)
    {h' : Heap} {m : Str → Option Value} (hm : ∀ y ov, (y, ov) ∈ σ.loc → ORel X.prog X.w Z ov (m y))
    (hn : h'.Ns X.env.locals (fun y => if y = x then some v else m y)) (hs : Heap.SameBut X.env.locals s.heap h') :
    Ext X σ Z s { σ with loc := loc' } Z { s with heap := h', toks := s.toks + 1 } := by
  have hL : X.env.locals ∈ foot X σ := List.mem_cons_self
  have hf : foot X { σ with loc := loc' } = foot X σ := rfl
  have ne : ∀ a ∈ foot X σ, a ∉ [X.env.locals] → a ≠ X.env.locals := fun a _ h => by simpa using h
  have nd := r.nd
  have k : ∀ b o, s.heap.get? b = some o → b ∉ foot X σ → h'.get? b = some o := fun b o e hb => (hs.2 b (fun h => hb (h ▸ hL))).trans e
  refine ⟨⟨⟨by rw [hu.keys]; exact r.fr.lnd, ?_, r.fr.ck, r.fr.cnd, r.fr.cinj, r.fr.pk, by rw [hu.keys]; exact r.fr.dbg, r.fr.kind⟩, fun a o e => foot_keep r (fun b o e hb _ => k b o e hb) a o e, r.st, r.ztab, r.oldKeep k, r.os, r.gens, ⟨_, hn, ?_⟩, ?_, r.cap, fun c hc => ?_, ?_, r.nd, r.zfoot, r.bfoot, ?_, r.g3, r.low⟩, fun _ _ e => e, fun b o e hb _ => k b o e hb, fun _ h => .inl h, fun _ _ h => .inl h⟩
  · intro p hp
    have : p.1 ∈ σ.loc.map (·.1) := by rw [← hu.keys]; exact List.mem_map_of_mem hp
    obtain ⟨q, hq, e⟩ := List.mem_map.mp this
    rw [← e]; exact r.fr.lk q hq
  · intro y ov hy
    rcases hu.mem r.fr.lnd y ov hy with ⟨rfl, rfl⟩ | ⟨h, hne⟩
    · exact ⟨v, by simp, hv⟩
    · rw [if_neg hne]; exact hm y ov h
  · intro y ov hy
    obtain ⟨c, uo, ho, hc, hv, hr⟩ := r.cells y ov hy
    refine ⟨c, uo, ho, hc, hv.sameBut hs ?_, hr⟩
    rintro rfl
    unfold foot at nd
    exact (List.nodup_cons.mp nd).1 (List.mem_append_left _ ho)
  · obtain ⟨uo, hv⟩ := r.ownc c hc
    refine ⟨uo, hv.sameBut hs ?_⟩
    rintro rfl
    unfold foot at nd
    exact (List.nodup_cons.mp nd).1 (List.mem_append_left _ hc)
  · intro p hp
    refine (r.mem p hp).mono (fun _ _ e => e) fun o e => (hs.2 _ ?_).trans e
    intro h
    unfold foot keys at nd
    exact (List.nodup_cons.mp nd).1 (List.mem_append_right _ (List.mem_map.mpr ⟨p, hp, h⟩))
  · intro a ha
    by_cases h : a = X.env.locals
    · subst h; obtain ⟨o, _, _, ho, _⟩ := hn; exact ⟨o, ho⟩
    · obtain ⟨o, ho⟩ := r.ex a ha; exact ⟨o, (hs.2 a h).trans ho⟩

theorem Rel.setCel (r : Rel X σ Z s) {x : Str} {d : V} {v : Value} {cel' : List (Str × Option V)} {c : Addr} (hu : Up x d σ.cel cel') (hv : VRel X.prog X.w Z d v)
    (hcm : c ∈ X.own) (hc : X.env.cells.lookup x = some c) {h' : Heap} (hn : h'.IsCell c (some v)) (hs : Heap.SameBut c s.heap h') :
    Ext X σ Z s { σ with cel := cel' } Z { s with heap := h' } := by
  have hL : c ∈ foot X σ := List.mem_cons_of_mem _ (List.mem_append_left _ hcm)
  have nd := r.nd
  have hcL : X.env.locals ≠ c := fun e => by
    unfold foot at nd
    exact (List.nodup_cons.mp nd).1 (e ▸ List.mem_append_left _ hcm)
  have k : ∀ b o, s.heap.get? b = some o → b ∉ foot X σ → h'.get? b = some o := fun b o e hb => (hs.2 b (fun h => hb (h ▸ hL))).trans e
  refine ⟨⟨⟨r.fr.lnd, r.fr.lk, ?_, by rw [hu.keys]; exact r.fr.cnd, by rw [hu.keys]; exact r.fr.cinj, r.fr.pk, by rw [hu.keys]; exact r.fr.dbg, r.fr.kind⟩, fun a o e => foot_keep r (fun b o e hb _ => k b o e hb) a o e, r.st, r.ztab, r.oldKeep k, r.os, r.gens, ?_, ?_, r.cap, fun c' hc' => ?_, ?_, r.nd, r.zfoot, r.bfoot, ?_, r.g3, r.low⟩, fun _ _ e => e, fun b o e hb _ => k b o e hb, fun _ h => .inl h, fun _ _ h => .inl h⟩
  · intro p hp
    have : p.1 ∈ σ.cel.map (·.1) := by rw [← hu.keys]; exact List.mem_map_of_mem hp
    obtain ⟨q, hq, e⟩ := List.mem_map.mp this
    rw [← e]; exact r.fr.ck q hq
  · obtain ⟨m, hn', hm⟩ := r.ns; exact ⟨m, hn'.sameBut hs hcL, hm⟩
  · intro y ov hy
    rcases hu.mem r.fr.cnd y ov hy with ⟨rfl, rfl⟩ | ⟨h, hne⟩
    · exact ⟨c, some v, hcm, hc, hn, ⟨v, rfl, hv⟩⟩
    · obtain ⟨c', uo, ho', hc', hv', hr⟩ := r.cells y ov h
      refine ⟨c', uo, ho', hc', hv'.sameBut hs ?_, hr⟩
      rintro rfl
      obtain ⟨u, hx⟩ := hu.has
      exact hne (r.fr.cinj _ _ _ (List.mem_map_of_mem (f := (·.1)) h) (List.mem_map_of_mem (f := (·.1)) hx) hc' hc)
  · by_cases e : c' = c
    · subst e; exact ⟨_, hn⟩
    · obtain ⟨uo, hv⟩ := r.ownc c' hc'; exact ⟨uo, hv.sameBut hs e⟩
  · intro p hp
    refine (r.mem p hp).mono (fun _ _ e => e) fun o e => (hs.2 _ ?_).trans e
    intro h
    unfold foot keys at nd
    have := (List.nodup_append.mp (List.nodup_cons.mp nd).2).2.2
    exact this c hcm p.1 (List.mem_map_of_mem hp) h.symm
  · intro a ha
    by_cases h : a = c
    · subst h; obtain ⟨o, ho, _⟩ := hn; exact ⟨o, ho⟩
    · obtain ⟨o, ho⟩ := r.ex a ha; exact ⟨o, (hs.2 a h).trans ho⟩
end
end Mine
end
section
open PySem PySem.Spec PySem.Calls PyProof.Rows PySem.W
namespace Mine
theorem vr_int {prog w Z i t} : VRel prog w Z (.int i) (.int i t) := ⟨t, rfl⟩
theorem vr_str {prog w Z x t} : VRel prog w Z (.str x) (.str x t) := ⟨t, rfl⟩
theorem vr_bool {prog w Z b} : VRel prog w Z (.bool b) (.bool b) := rfl
theorem vr_none {prog w Z} : VRel prog w Z .none .none := rfl
theorem rfl_next {X Z} : RFl X Z .next .next := rfl
theorem rfl_brk {X Z} : RFl X Z .brk .brk := rfl
theorem rfl_cont {X Z} : RFl X Z .cont .cont := rfl
theorem rfl_ret {X Z d v} (h : VRel X.prog X.w Z d v) : RFl X Z (.ret d) (.ret v) := ⟨v, rfl, h⟩
section
variable {X : Cx} {σ σ' : St} {Z Z' : ZM} {s s' : Shared}

theorem here {α β : Type} {R : ZM → β → α → Prop} {P : β → St → Prop} {b : β} {a : α} (x : Ext X σ Z s σ' Z' s') (hr : R Z' b a) (h : P b σ') : Post X R σ Z s P a s' := ⟨Z', σ', b, x, hr, h⟩

section
variable {P : V → St → Prop}
theorem EV.int {i k pos} (h : P (.int i) σ) : EV X (.Constant (.int i) k pos) σ P := fun _ _ r => wpAny_Constant_int (here (Ext.refl r).toks vr_int h)
theorem EV.str {x k pos} (h : P (.str x) σ) : EV X (.Constant (.str x) k pos) σ P := fun _ _ r => wpAny_Constant_str (here (Ext.refl r).toks vr_str h)
theorem EV.bool {b k pos} (h : P (.bool b) σ) : EV X (.Constant (.bool b) k pos) σ P := fun _ _ r => wpAny_Constant_bool (here (Ext.refl r) vr_bool h)
theorem EV.loc {x pos d} (hm : (x, some d) ∈ σ.loc) (h : P d σ) : EV X (.Name x pos) σ P := fun Z s r => by
  obtain ⟨m, hn, hv⟩ := r.ns
  obtain ⟨v, hx, hr⟩ := hv _ _ hm
  exact wpAny_Name (wpAny_loadName_local r.fr.kind (r.fr.lk _ hm) hn hx (here (b := d) (Ext.refl r) hr h)) (r.fr.dbg x (List.mem_append_left _ (List.mem_map_of_mem (f := (·.1)) hm))).1
theorem EV.cel {x pos d} (hm : (x, some d) ∈ σ.cel) (h : P d σ) : EV X (.Name x pos) σ P := fun Z s r => by
  obtain ⟨c, uo, _, hc, hv, u, rfl, hr⟩ := r.cells _ _ hm
  refine wpAny_Name ?_ (r.fr.dbg x (List.mem_append_right _ (List.mem_append_left _ (List.mem_map_of_mem (f := (·.1)) hm)))).1
  exact wpAny_loadName_cell r.fr.kind (r.fr.ck _ hm) hc hv (here (b := d) (Ext.refl r) hr h)
theorem EV.cap {x pos d} (hm : (x, d) ∈ σ.cap) (h : P d σ) : EV X (.Name x pos) σ P := fun Z s r => by
  obtain ⟨c, o, u, hc, hz, hd, hr⟩ := r.cap _ _ hm
  have hv : s.heap.IsCell c (some u) := ⟨o, r.zin _ _ hz, hd⟩
  have db := r.fr.dbg x (List.mem_append_right _ (List.mem_append_right _ (List.mem_map_of_mem (f := (·.1)) hm)))
  refine wpAny_Name ?_ db.1
  rcases r.fr.pk _ hm with hk | hk
  · exact wpAny_loadName_cell r.fr.kind hk hc hv (here (b := d) (Ext.refl r) hr h)
  · exact wpAny_loadName_free r.fr.kind hk hc hv (here (b := d) (Ext.refl r) hr h) db.2

theorem Rel.baseNs (r : Rel X σ Z s) {a : Addr} {m : Str → Option Value} (h : X.base.Ns a m) : s.heap.Ns a m := by
  obtain ⟨o, es, ep, ho, hd, q⟩ := h
  refine ⟨o, es, ep, r.zin _ _ (r.st _ _ ho ?_), hd, q⟩
  rintro ⟨o', vs, ho', _, hd'⟩
  rw [ho] at ho'; cases ho'
  rw [hd] at hd'; cases hd'
theorem Rel.nolim (r : Rel X σ Z s) (h : X.base.NoLimit) : s.heap.NoLimit := by
  obtain ⟨mc, hn, e⟩ := h; exact ⟨mc, r.baseNs hn, e⟩

end

/-! two values at a time -/
noncomputable def OP2 (X : Cx) (f : Value → Value → Sem Value) (d1 d2 : V) (σ : St) (P : V → St → Prop) : Prop :=
  ∀ Z s v1 v2, Rel X σ Z s → VRel X.prog X.w Z d1 v1 → VRel X.prog X.w Z d2 v2 → wpAny (model X.prog X.w) X.A (f v1 v2) (Post X (RV X) σ Z s P) Nope s
noncomputable def OP1 {α β : Type} (X : Cx) (R : ZM → β → α → Prop) (f : Value → Sem α) (d1 : V) (σ : St) (P : β → St → Prop) : Prop :=
  ∀ Z s v1, Rel X σ Z s → VRel X.prog X.w Z d1 v1 → wpAny (model X.prog X.w) X.A (f v1) (Post X R σ Z s P) Nope s
noncomputable abbrev BIN (X : Cx) (op : Operator) := OP2 X (binaryOp op)
noncomputable abbrev INP (X : Cx) (op : Operator) := OP2 X (inplaceOp op)
noncomputable abbrev CMP (X : Cx) (op : CmpOp) := OP2 X (compareOp op)
noncomputable abbrev TRU (X : Cx) := OP1 X (REq (α := Bool)) truthy
noncomputable abbrev UNA (X : Cx) (op : UnaryOp) := OP1 X (RV X) (unaryOp op)

section
variable {P : V → St → Prop}
theorem EV.bin {l op r pos} (h : EV X l σ fun d1 σ1 => EV X r σ1 fun d2 σ2 => BIN X op d1 d2 σ2 P) : EV X (.BinOp l op r pos) σ P := fun Z s R =>
  wpAny_BinOp (J.use h R fun Z1 s1 σ1 d1 v1 x1 r1 h1 => J.use h1 x1.rel fun Z2 s2 σ2 d2 v2 x2 r2 h2 =>
    wpAny_mono (h2 Z2 s2 v1 v2 x2.rel (r1.mono x2.le) r2) (fun _ _ q => q.lift (x1.trans x2)) fun _ _ h => h)
theorem EV.cmp {l op r pos} (h : EV X l σ fun d1 σ1 => EV X r σ1 fun d2 σ2 => CMP X op d1 d2 σ2 P) (hm : behindInMarks op r = false := by with_unfolding_all rfl) : EV X (.Compare l [op] [r] pos) σ P := fun Z s R =>
  wpAny_Compare1 (J.use h R fun Z1 s1 σ1 d1 v1 x1 r1 h1 => J.use h1 x1.rel fun Z2 s2 σ2 d2 v2 x2 r2 h2 =>
    wpAny_mono (h2 Z2 s2 v1 v2 x2.rel (r1.mono x2.le) r2) (fun _ _ q => q.lift (x1.trans x2)) fun _ _ h => h) hm
theorem EV.una {op x pos} (h : EV X x σ fun d1 σ1 => UNA X op d1 σ1 P) : EV X (.UnaryOp op x pos) σ P := fun Z s R =>
  wpAny_UnaryOp (J.use h R fun Z1 s1 σ1 d1 v1 x1 r1 h1 => wpAny_mono (h1 Z1 s1 v1 x1.rel r1) (fun _ _ q => q.lift x1) fun _ _ h => h)
theorem EV.ife {t b o pos} (h : ET X t σ fun c σ1 => if c then EV X b σ1 P else EV X o σ1 P) : EV X (.IfExp t b o pos) σ P := fun Z s R =>
  wpAny_IfExp (J.use h R fun Z1 s1 σ1 c c' x1 r1 h1 => by
    cases r1
    cases c with
    | true => exact J.after h1 x1
    | false => exact J.after h1 x1)
/-! ints -/
theorem BIN.add {a b} (h : P (.int (a + b)) σ) : BIN X .Add (.int a) (.int b) σ P := fun Z s v1 v2 r ⟨t, e1⟩ ⟨u, e2⟩ => by
  subst e1 e2; exact PyProof.Rows.add_int (here (Ext.refl r).toks vr_int h)
theorem BIN.sub {a b} (h : P (.int (a - b)) σ) : BIN X .Sub (.int a) (.int b) σ P := fun Z s v1 v2 r ⟨t, e1⟩ ⟨u, e2⟩ => by
  subst e1 e2; exact PyProof.Rows.sub_int (here (Ext.refl r).toks vr_int h)
theorem BIN.mul {a b} (h : P (.int (a * b)) σ) (ha : -(2 ^ 64) < a ∧ a < 2 ^ 64) : BIN X .Mult (.int a) (.int b) σ P := fun Z s v1 v2 r ⟨t, e1⟩ ⟨u, e2⟩ => by
  subst e1 e2; exact PyProof.Rows.mul_int (here (Ext.refl r).toks vr_int h) (IntMulOk.of_left (intBits_le_64 ha.1 ha.2))
theorem BIN.div {a b} (h : P (.int (a.fdiv b)) σ) (hb : 0 < b ∧ b < 1073741824) : BIN X .FloorDiv (.int a) (.int b) σ P := fun Z s v1 v2 r ⟨t, e1⟩ ⟨u, e2⟩ => by
  subst e1 e2; exact PyProof.Rows.floordiv_int (by omega) (here (Ext.refl r).toks vr_int h) (.inl (PyProof.noPylong_small (by omega)))
theorem BIN.mod {a b} (h : P (.int (a.fmod b)) σ) (hb : b ≠ 0) : BIN X .Mod (.int a) (.int b) σ P := fun Z s v1 v2 r ⟨t, e1⟩ ⟨u, e2⟩ => by
  subst e1 e2; exact PyProof.Rows.mod_int' hb (here (Ext.refl r).toks vr_int h)
theorem BIN.pow {a b} (h : P (.int (a ^ b.toNat)) σ) (hb : 0 ≤ b ∧ b ≤ 1000) (ha : -(2 ^ 64) < a ∧ a < 2 ^ 64) : BIN X .Pow (.int a) (.int b) σ P := fun Z s v1 v2 r ⟨t, e1⟩ ⟨u, e2⟩ => by
  subst e1 e2; refine PyProof.Rows.pow_int hb.1 ?_ (here (Ext.refl r).toks vr_int h)
  have h1 := intBits_le_64 ha.1 ha.2
  calc (Builtin.Int.intBits a : Int) * b ≤ 64 * 1000 := Int.mul_le_mul (by omega) hb.2 hb.1 (by omega)
    _ ≤ 2 ^ 27 := by decide
theorem BIN.adds {a b : Str} (h : P (.str (a ++ b)) σ) (hz : a.length + b.length ≤ sizeLine) : BIN X .Add (.str a) (.str b) σ P := fun Z s v1 v2 r ⟨t, e1⟩ ⟨u, e2⟩ => by
  subst e1 e2; exact PyProof.Rows.add_str (fun t' tk => here (Ext.refl r).toks vr_str h) hz
theorem CMP.eqi {a b : Int} (h : P (.bool (a == b)) σ) : CMP X .Eq (.int a) (.int b) σ P := fun Z s v1 v2 r ⟨t, e1⟩ ⟨u, e2⟩ => by
  subst e1 e2; exact PyProof.Rows.eq_int (here (Ext.refl r) vr_bool h)
theorem CMP.lti {a b : Int} (h : P (.bool (decide (a < b))) σ) : CMP X .Lt (.int a) (.int b) σ P := fun Z s v1 v2 r ⟨t, e1⟩ ⟨u, e2⟩ => by
  subst e1 e2; exact PyProof.Rows.lt_int (here (Ext.refl r) vr_bool h)
theorem CMP.gti {a b : Int} (h : P (.bool (decide (b < a))) σ) : CMP X .Gt (.int a) (.int b) σ P := fun Z s v1 v2 r ⟨t, e1⟩ ⟨u, e2⟩ => by
  subst e1 e2; exact PyProof.Rows.gt_int (here (Ext.refl r) vr_bool h)
theorem CMP.gei {a b : Int} (h : P (.bool (decide (b ≤ a))) σ) : CMP X .GtE (.int a) (.int b) σ P := fun Z s v1 v2 r ⟨t, e1⟩ ⟨u, e2⟩ => by
  subst e1 e2; exact PyProof.Rows.ge_int (here (Ext.refl r) vr_bool h)
theorem CMP.eqs {a b : Str} (h : P (.bool (a == b)) σ) : CMP X .Eq (.str a) (.str b) σ P := fun Z s v1 v2 r ⟨t, e1⟩ ⟨u, e2⟩ => by
  subst e1 e2; exact PyProof.Rows.eq_str (here (Ext.refl r) vr_bool h)
theorem UNA.neg {a : Int} (h : P (.int (-a)) σ) : UNA X .USub (.int a) σ P := fun Z s v1 r hh0 => by
  obtain ⟨t, e1⟩ := hh0
  subst e1; exact PyProof.Rows.neg_int (here (Ext.refl r).toks vr_int h)
end

section
variable {P : Bool → St → Prop}
theorem TRU.bool {b} (h : P b σ) : TRU X (.bool b) σ P := fun Z s v1 r e => by
  cases e; exact wpAny_truthy_bool (here (b := b) (Ext.refl r) rfl h)
theorem ET.val {e} (h : EV X e σ fun d σ1 => TRU X d σ1 P) (he : ∀ env, isTrue e env (eval e env) = (do let v ← eval e env; standAt e.pos; holding [v] (truthy v)) := by intro _; rfl) : ET X e σ P := fun Z s R =>
  wpAny_isTrue_value (J.use h R fun Z1 s1 σ1 d1 v1 x1 r1 h1 => wpAny_mono (h1 Z1 s1 v1 x1.rel r1) (fun _ _ q => q.lift x1) fun _ _ h => h) (he _)
theorem ET.cmp {l op r pos} (h : EV X l σ fun d1 σ1 => EV X r σ1 fun d2 σ2 => CMP X op d1 d2 σ2 fun d σ3 => TRU X d σ3 P) (hm : behindInMarks op r = false := by with_unfolding_all rfl) : ET X (.Compare l [op] [r] pos) σ P := fun Z s R =>
  wpAny_isTrue_Compare1 (J.use h R fun Z1 s1 σ1 d1 v1 x1 r1 h1 => J.use h1 x1.rel fun Z2 s2 σ2 d2 v2 x2 r2 h2 =>
    wpAny_mono (h2 Z2 s2 v1 v2 x2.rel (r1.mono x2.le) r2) (fun v s3 q => by
      obtain ⟨Z3, σ3, d3, x3, r3, h3⟩ := q
      exact wpAny_mono (h3 Z3 s3 v x3.rel r3) (fun _ _ q => q.lift ((x1.trans x2).trans x3)) fun _ _ h => h) fun _ _ h => h) hm
theorem ET.not {x pos} (h : ET X x σ fun b σ1 => P (!b) σ1) : ET X (.UnaryOp .Not x pos) σ P := fun Z s R =>
  wpAny_isTrue_Not (J.use h R fun Z1 s1 σ1 c c' x1 r1 h1 => by cases r1; exact here (b := !c) x1 rfl h1)
end

/-! statements -/
section
variable {P : Fl → St → Prop}
theorem EX.nil (h : P .next σ) : EX X [] σ P := fun Z s r => wpAny_execs_nil (here (Ext.refl r) rfl_next h)
theorem EX.cons {st rest} (h : ES X st σ fun f σ1 => match f with | .next => EX X rest σ1 P | f => P f σ1) : EX X (st :: rest) σ P := fun Z s r =>
  wpAny_execs_cons (J.use h r fun Z1 s1 σ1 f f' x1 r1 h1 => by
    cases f with
    | next => cases r1; exact J.after h1 x1
    | brk => cases r1; exact here x1 rfl_brk h1
    | cont => cases r1; exact here x1 rfl_cont h1
    | ret d => obtain ⟨v, rfl, hr⟩ := r1; exact here x1 (rfl_ret hr) h1)
/-- what comes behind a statement, under a name of its own -/
structure Kont (X : Cx) (rest : List Stmt) (P K : Fl → St → Prop) : Prop where
  next : ∀ {σ}, EX X rest σ P → K .next σ
  brk : ∀ {σ}, P .brk σ → K .brk σ
  cont : ∀ {σ}, P .cont σ → K .cont σ
  ret : ∀ {d σ}, P (.ret d) σ → K (.ret d) σ
theorem EX.cons1 {st : Stmt} {rest : List Stmt} (h : ∀ K, Kont X rest P K → ES X st σ K) : EX X (st :: rest) σ P := EX.cons (h _ ⟨id, id, id, id⟩)
/-- what comes behind the body of a loop -/
structure KontL (I : St → Prop) (Q K : Fl → St → Prop) : Prop where
  next : ∀ {σ}, I σ → K .next σ
  cont : ∀ {σ}, I σ → K .cont σ
  brk : ∀ {σ}, Q .next σ → K .brk σ
  ret : ∀ {d σ}, Q (.ret d) σ → K (.ret d) σ
noncomputable def EXK (X : Cx) (b : List Stmt) (σ : St) (I : St → Prop) (Q : Fl → St → Prop) : Prop := ∀ K, KontL I Q K → EX X b σ K
theorem EXK.use {b : List Stmt} {I : St → Prop} {Q : Fl → St → Prop} (h : EXK X b σ I Q) : EX X b σ fun f σ4 => match f with
    | .next | .cont => I σ4
    | .brk => Q .next σ4
    | .ret v => Q (.ret v) σ4 := h _ ⟨id, id, id, id⟩
theorem ES.ret {e pos} (h : EV X e σ fun d σ1 => P (.ret d) σ1) : ES X (.Return (some e) pos) σ P := fun Z s r =>
  wpAny_Return_some (J.use h r fun Z1 s1 σ1 d v x1 r1 h1 => here x1 (rfl_ret r1) h1)
theorem ES.ite {t b o pos} (h : ET X t σ fun c σ1 => if c then EX X b σ1 P else EX X o σ1 P) : ES X (.If t b o pos) σ P := fun Z s r =>
  wpAny_If (J.use h r fun Z1 s1 σ1 c c' x1 r1 h1 => by
    cases r1
    cases c with
    | true => exact J.after h1 x1
    | false => exact J.after h1 x1)
theorem ES.cont {pos} (h : P .cont σ) : ES X (.Continue pos) σ P := fun Z s r => wpAny_Continue (here (Ext.refl r) rfl_cont h)
theorem ES.expr {e pos} (h : EV X e σ fun _ σ1 => P .next σ1) (hi : interactive X.env = false := by rfl) (hs : swapsWith e none pos.line X.env = pure false := by rfl) : ES X (.Expr e pos) σ P := fun Z s r =>
  wpAny_Expr_any (J.use h r fun Z1 s1 σ1 d v x1 r1 h1 => here x1 rfl_next h1) hi hs

/-- a value is stored under a target -/
noncomputable def AS (X : Cx) (target : PySem.Expr) (d : V) (σ : St) (P : St → Prop) : Prop :=
  OP1 X (REq (α := Unit)) (assign target X.env) d σ fun _ σ' => P σ'
noncomputable def SN (X : Cx) (x : Str) (d : V) (σ : St) (P : St → Prop) : Prop := OP1 X (REq (α := Unit)) (storeName X.env x) d σ fun _ σ' => P σ'
theorem SN.loc {x d} {Q : St → Prop} {loc'} (hu : Up x d σ.loc loc') (h : Q { σ with loc := loc' }) : SN X x d σ Q := fun Z s v r hr => by
  obtain ⟨m, hn, hm⟩ := r.ns
  obtain ⟨u, hx⟩ := hu.has
  refine wpAny_storeName_local (r.fr.lk _ hx) hn (fun h' hn' hs => ?_) (by rw [r.fr.kind]; rfl)
  exact here (b := ()) (r.setLoc hu hr hm hn' hs) rfl h
theorem SN.cel {x d} {Q : St → Prop} {cel'} (hu : Up x d σ.cel cel') (h : Q { σ with cel := cel' }) : SN X x d σ Q := fun Z s v r hr => by
  obtain ⟨u, hx⟩ := hu.has
  obtain ⟨c, uo, ho, hc, hv, _⟩ := r.cells _ _ hx
  refine wpAny_storeName_cell r.fr.kind (r.fr.ck _ hx) hc hv (fun h' hn' hs => ?_)
  exact here (b := ()) (r.setCel hu hr ho hc hn' hs) rfl h
theorem AS.name {x pos d} {Q : St → Prop} (h : SN X x d σ Q) : AS X (.Name x pos) d σ Q := fun Z s v r hr => wpAny_assign_Name (h Z s v r hr)
theorem AS.loc {x pos d} {Q : St → Prop} {loc'} (hu : Up x d σ.loc loc') (h : Q { σ with loc := loc' }) : AS X (.Name x pos) d σ Q := AS.name (SN.loc hu h)
theorem AS.cel {x pos d} {Q : St → Prop} {cel'} (hu : Up x d σ.cel cel') (h : Q { σ with cel := cel' }) : AS X (.Name x pos) d σ Q := AS.name (SN.cel hu h)
theorem ES.asg {t value pos} (h : EV X value σ fun d σ1 => AS X t d σ1 (P .next)) (hs : swapsWithSole [t] value pos.line X.env = pure false) (hw : swappedStores [t] value X.env = pure none)
    (he : (assignEach [t] X.env).map (·.2) = [assign t X.env]) : ES X (.Assign [t] value pos) σ P := fun Z s r =>
  wpAny_Assign_stores (by
    rw [he]
    exact J.use h r fun Z1 s1 σ1 d v x1 r1 h1 => wpAny_mono (h1 Z1 s1 v x1.rel r1) (fun _ _ q => by
      obtain ⟨Z2, σ2, b, x2, rfl, h2⟩ := q
      exact here (x1.trans x2) rfl_next h2) fun _ _ h => h) hs hw
end
end
end Mine
end
section
open PySem PySem.Spec PySem.Calls PyProof.Rows PySem.W
namespace Mine
theorem vr_tup {prog w Z a its n l} (h : Z a = some { cls := .type "tuple", data := .seq its n }) (hr : VsRel prog w Z l its.toList) : VRel prog w Z (.tup l) (.ref a) := ⟨a, its, n, rfl, h, hr⟩
theorem vr_list {prog w Z a its n l} (h : Z a = some { cls := .type "list", data := .seq its n }) (hr : VsRel prog w Z l its.toList) : VRel prog w Z (.list l) (.ref a) := ⟨a, its, n, rfl, h, hr⟩
theorem vr_slc {prog w Z a lv uv sv l u st} (h : Z a = some { cls := .type "slice", data := .fields #[lv, uv, sv] }) (h1 : IsPart lv l) (h2 : IsPart uv u) (h3 : IsPart sv st) : VRel prog w Z (.slc l u st) (.ref a) := ⟨a, lv, uv, sv, rfl, h, h1, h2, h3⟩
theorem vr_ref {prog w Z a} : VRel prog w Z (.ref a) (.ref a) := rfl
theorem vs_arr {prog w Z ds vs} (h : VsRel prog w Z ds vs) : VsRel prog w Z ds vs.toArray.toList := by simpa using h
theorem seqIndex_cases {k : Int} {n j : Nat} (h : seqIndex? k n = some j) : (0 ≤ k ∧ k < n ∧ j = k.toNat) ∨ (k < 0 ∧ 0 ≤ k + n ∧ j = (k + n).toNat) := by
  unfold seqIndex? at h
  by_cases hk : k < 0
  · simp only [hk, if_true] at h
    split at h
    · rename_i hc
      simp only [Bool.and_eq_true, decide_eq_true_eq] at hc
      cases h; exact .inr ⟨hk, hc.1, rfl⟩
    · cases h
  · simp only [hk, if_false] at h
    split at h
    · rename_i hc
      simp only [Bool.and_eq_true, decide_eq_true_eq] at hc
      cases h; exact .inl ⟨hc.1, hc.2, rfl⟩
    · cases h
section
variable {X : Cx} {σ σ' : St} {Z Z' : ZM} {s s' : Shared} {P : V → St → Prop}

/-! several expressions -/
noncomputable def EVs (X : Cx) (pos : Pos) (es : List PySem.Expr) (σ : St) (P : List V → St → Prop) : Prop := J X (RVs X) (spliced (backTo pos (starEach es X.env))) σ P
theorem EVs.nil {pos} {Q : List V → St → Prop} (h : Q [] σ) : EVs X pos [] σ Q := fun Z s r => wpAny_items_nil (here (b := []) (Ext.refl r) rfl h)
theorem EVs.cons {pos e rest} {Q : List V → St → Prop} (h : EV X e σ fun d σ1 => EVs X pos rest σ1 fun ds σ2 => Q (d :: ds) σ2)
    (he : ∀ env, starEach (e :: rest) env = (false, eval e env) :: starEach rest env := by intro _; rfl) : EVs X pos (e :: rest) σ Q := fun Z s r =>
  wpAny_items_cons (J.use h r fun Z1 s1 σ1 d v x1 r1 h1 => J.use h1 x1.rel fun Z2 s2 σ2 ds vs x2 r2 h2 => here (b := d :: ds) (x1.trans x2) ⟨v, vs, rfl, r1.mono x2.le, r2⟩ h2) (he _)

theorem EV.tup {es k pos} (h : EVs X pos es σ fun ds σ1 => ds.length ≤ sizeLine ∧ P (.tup ds) σ1) : EV X (.Tuple es k pos) σ P := fun Z s r =>
  wpAny_Tuple (J.use h r fun Z1 s1 σ1 ds vs x1 r1 h1 => by
    refine ⟨by rw [VsRel.length r1]; exact h1.1, ?_⟩
    obtain ⟨y, le⟩ := x1.pushZ { cls := .type "tuple", data := .seq vs.toArray }
    exact here y (vr_tup Zput.self (vs_arr (VsRel.mono le r1))) h1.2)
theorem EV.list {es pos} (h : EVs X pos es σ fun ds σ1 => ds.length ≤ sizeLine ∧ P (.list ds) σ1) : EV X (.List es pos) σ P := fun Z s r =>
  wpAny_List (J.use h r fun Z1 s1 σ1 ds vs x1 r1 h1 => by
    refine ⟨by rw [VsRel.length r1]; exact h1.1, ?_⟩
    obtain ⟨y, le⟩ := x1.pushZ { cls := .type "list", data := .seq vs.toArray }
    exact here y (vr_list Zput.self (vs_arr (VsRel.mono le r1))) h1.2)

/-- a new object becomes a cell of the ledger -/
theorem Ext.pushM (x : Ext X σ Z s σ' Z' s') (o : Obj) {c : Cell} (hf : o.isFreed = false) (hc : CellRel X.prog X.w Z' (s'.heap.push o) s'.heap.objs.size c) :
    Ext X σ Z s { σ' with mem := σ'.mem ++ [(s'.heap.objs.size, c)] } Z' { s' with heap := s'.heap.push o } := by
  have y := x.push o
  have r := y.rel
  have hz : Z' s'.heap.objs.size = none := by
    cases h : Z' s'.heap.objs.size with
    | none => rfl
    | some o' => exact absurd (Heap.lt_size (x.rel.zin _ _ h)) (Nat.lt_irrefl _)
  have hb : X.base.get? s'.heap.objs.size = none := by
    cases h : X.base.get? s'.heap.objs.size with
    | none => rfl
    | some o' =>
      obtain ⟨o2, h2⟩ := x.rel.old.there _ _ h
      exact absurd (Heap.lt_size h2) (Nat.lt_irrefl _)
  have ft : foot X { σ' with mem := σ'.mem ++ [(s'.heap.objs.size, c)] } = foot X σ' ++ [s'.heap.objs.size] := by
    simp [foot, keys]
  refine ⟨⟨⟨r.fr.lnd, r.fr.lk, r.fr.ck, r.fr.cnd, r.fr.cinj, r.fr.pk, r.fr.dbg, r.fr.kind⟩, r.zin, r.st, r.ztab, r.old, r.os, r.gens, r.ns, r.cells, r.cap, r.ownc, ?_, ?_, ?_, ?_, ?_, r.g3, ?_⟩, y.le, y.keep, ?_, x.znew⟩
  · intro p hp
    rcases List.mem_append.mp hp with hp | hp
    · exact r.mem p hp
    · rw [List.mem_singleton] at hp; subst hp; exact hc
  · rw [ft]
    refine List.nodup_append.mpr ⟨r.nd, by simp, fun a ha b hb => ?_⟩
    rw [List.mem_singleton] at hb
    subst hb
    intro e
    exact absurd (x.rel.lt a ha) (by rw [e]; exact Nat.lt_irrefl _)
  · intro a ha
    rw [ft] at ha
    rcases List.mem_append.mp ha with ha | ha
    · exact r.zfoot a ha
    · rw [List.mem_singleton] at ha; subst ha; exact hz
  · intro a ha
    rw [ft] at ha
    rcases List.mem_append.mp ha with ha | ha
    · exact r.bfoot a ha
    · rw [List.mem_singleton] at ha; subst ha; exact hb
  · intro a ha
    rw [ft] at ha
    rcases List.mem_append.mp ha with ha | ha
    · exact r.ex a ha
    · rw [List.mem_singleton] at ha; subst ha; exact ⟨o, Heap.get?_push_size _ hf⟩
  · intro a ha
    simp only [keys, List.map_append, List.mem_append, List.map_cons, List.map_nil, List.mem_singleton] at ha
    rcases ha with ha | ha
    · exact r.low a ha
    · rw [ha]; exact x.rel.sz3
  · intro a ha
    simp only [keys, List.map_append, List.mem_append, List.map_cons, List.map_nil, List.mem_singleton] at ha
    rcases ha with ha | ha
    · exact x.new a ha
    · subst ha
      exact x.gone (Heap.get?_none_of_le (Nat.le_refl _))

theorem EV.listM {es pos} (h : EVs X pos es σ fun ds σ1 => ds.length ≤ sizeLine ∧ ∀ a, P (.ref a) { σ1 with mem := σ1.mem ++ [(a, .list ds)] }) : EV X (.List es pos) σ P := fun Z s r =>
  wpAny_List (J.use h r fun Z1 s1 σ1 ds vs x1 r1 h1 => by
    refine ⟨by rw [VsRel.length r1]; exact h1.1, ?_⟩
    exact here (x1.pushM { cls := .type "list", data := .seq vs.toArray } (c := .list ds) rfl ⟨vs.toArray, ⟨0, Heap.get?_push_size _ rfl⟩, vs_arr r1⟩) vr_ref (h1.2 _))
theorem EV.dictMI {pos} (h : ∀ a, P (.ref a) { σ with mem := σ.mem ++ [(a, .idict [] [])] }) : EV X (.Dict [] [] pos) σ P := fun Z s r =>
  wpAny_Dict_empty (here ((Ext.refl r).pushM { cls := .type "dict", data := .dict #[] } (c := .idict [] []) rfl ⟨[], Heap.DictOf.new _, rfl, rfl⟩) vr_ref (h _))

/-! slices -/
noncomputable def EVO (X : Cx) (e : Option PySem.Expr) (σ : St) (P : Option Int → St → Prop) : Prop := J X (fun _ b a => IsPart a b) (evalPart e X.env) σ P
theorem EVO.none {Q : Option Int → St → Prop} (h : Q none σ) : EVO X none σ Q := fun Z s r => wpAny_evalPart_none (here (Ext.refl r) .none h)
theorem EVO.some {e} {Q : Option Int → St → Prop} (h : EV X e σ fun d σ1 => ∃ i, d = .int i ∧ Q (some i) σ1) : EVO X (some e) σ Q := fun Z s r =>
  wpAny_evalPart_some (J.use h r fun Z1 s1 σ1 d v x1 r1 h1 => by
    obtain ⟨i, rfl, h2⟩ := h1
    obtain ⟨t, rfl⟩ := r1
    exact here x1 (.int i t) h2)
theorem EV.slice {l u st p} (h : EVO X l σ fun lo σ1 => EVO X u σ1 fun hi σ2 => EVO X st σ2 fun sp σ3 => P (.slc lo hi sp) σ3) : EV X (.Slice l u st p) σ P := fun Z s r =>
  wpAny_Slice (J.use h r fun Z1 s1 σ1 lo lv x1 r1 h1 => J.use h1 x1.rel fun Z2 s2 σ2 hi hv x2 r2 h2 => J.use h2 x2.rel fun Z3 s3 σ3 sp sv x3 r3 h3 => by
    obtain ⟨y, le⟩ := ((x1.trans x2).trans x3).pushZ { cls := .type "slice", data := .fields #[lv, hv, sv] }
    exact here y (vr_slc Zput.self r1 r2 r3) h3)

/-! subscripts -/
noncomputable def SUB (X : Cx) (d1 d2 : V) (σ : St) (P : V → St → Prop) : Prop :=
  ∀ Z s v1 v2, Rel X σ Z s → VRel X.prog X.w Z d1 v1 → VRel X.prog X.w Z d2 v2 →
    (∃ T id, s.TypeIs v1 T ∧ typeLookup (.type T) "__getitem__" = pure (some (.builtin id))) ∧ wpAny (model X.prog X.w) X.A (getItem v1 v2) (Post X (RV X) σ Z s P) Nope s
theorem subscripted_ops (slice : PySem.Expr) (o i : Value) : ∃ ops, subscripted slice false o i = operate ops (getItem o i) := by
  cases slice with
  | Slice l u st p => cases st <;> exact ⟨_, rfl⟩
  | _ => exact ⟨_, rfl⟩
theorem EV.sub {value slice pos} (h : EV X value σ fun d1 σ1 => EV X slice σ1 fun d2 σ2 => SUB X d1 d2 σ2 P) : EV X (.Subscript value slice pos) σ P := fun Z s R =>
  Subscript_ (J.use h R fun Z1 s1 σ1 d1 v1 x1 r1 h1 => J.use h1 x1.rel fun Z2 s2 σ2 d2 v2 x2 r2 h2 => by
    obtain ⟨⟨T, id, hT, hl⟩, hg⟩ := h2 Z2 s2 v1 v2 x2.rel (r1.mono x2.le) r2
    obtain ⟨ops, ho⟩ := subscripted_ops slice v1 v2
    exact tail_any hT hl (wpAny_mono hg (fun _ _ q => q.lift (x1.trans x2)) fun _ _ h => h) ho)

theorem Rel.plist (r : Rel X σ Z s) {a : Addr} {its n} (h : Z a = some { cls := .type "list", data := .seq its n }) : s.heap.PlainList a its := ⟨n, r.zin _ _ h⟩
theorem Rel.ptup (r : Rel X σ Z s) {a : Addr} {its n} (h : Z a = some { cls := .type "tuple", data := .seq its n }) : IsTup s.heap a its := ⟨_, r.zin _ _ h, rfl, n, rfl⟩
theorem Rel.pdict {K : Type} [DecidableEq K] {knd : KeyKind X.prog X.w K} {kvs : List (K × Value)} (r : Rel X σ Z s) {a : Addr} (h : ZDict knd Z a kvs) : s.heap.DictOf knd a kvs :=
  let ⟨o, es, ep, e, q⟩ := h; ⟨o, es, ep, r.zin _ _ e, q⟩

theorem SUB.list {l : List V} {k : Int} {d : V} {j : Nat} (hk : seqIndex? k l.length = some j) (hd : l[j]? = some d) (hf : -(2 ^ 63) ≤ k ∧ k < 2 ^ 63) (h : P d σ) : SUB X (.list l) (.int k) σ P := fun Z s v1 v2 r h1 h2 => by
  obtain ⟨a, its, n, rfl, ha, hr⟩ := h1
  obtain ⟨t, rfl⟩ := h2
  have pl := (r.plist ha).isList
  have hlen : its.size = l.length := by rw [← hr.length]; simp
  refine ⟨⟨_, _, ⟨_, r.zin _ _ ha, rfl⟩, slot_list_getitem.lookup⟩, ?_⟩
  obtain ⟨v, hv, hrv⟩ := hr.get hd
  have hv' : its[j]? = some v := by simpa using hv
  rcases seqIndex_cases hk with ⟨h0, h1, rfl⟩ | ⟨h0, h1, rfl⟩
  · exact wpAny_getItem_list pl h0 hf.2 hv' (here (Ext.refl r) hrv h)
  · exact wpAny_getItem_list_neg pl h0 (by omega) hf.1 (by rw [hlen]; exact hv') (here (Ext.refl r) hrv h)
theorem SUB.tup {l : List V} {k : Int} {d : V} {j : Nat} (hk : seqIndex? k l.length = some j) (hd : l[j]? = some d) (hf : -(2 ^ 63) ≤ k ∧ k < 2 ^ 63) (h : P d σ) : SUB X (.tup l) (.int k) σ P := fun Z s v1 v2 r h1 h2 => by
  obtain ⟨a, its, n, rfl, ha, hr⟩ := h1
  obtain ⟨t, rfl⟩ := h2
  have hlen : its.size = l.length := by rw [← hr.length]; simp
  refine ⟨⟨_, _, ⟨_, r.zin _ _ ha, rfl⟩, slot_tuple_getitem.lookup⟩, ?_⟩
  obtain ⟨v, hv, hrv⟩ := hr.get hd
  exact PyProof.Rows.getItem_tuple (r.ptup ha) hf.1 hf.2 (by rw [hlen]; exact hk) (by simpa using hv) (here (Ext.refl r) hrv h)
end
end Mine
end
section
open PySem PySem.Spec PySem.Calls PyProof.Rows PySem.W
namespace Mine
section
variable {X : Cx} {σ σ' : St} {Z Z' : ZM} {s s' : Shared} {P : V → St → Prop}

/-! the ledger's cells change -/
inductive UpM (a : Addr) (c : Cell) : List (Addr × Cell) → List (Addr × Cell) → Prop
  | head {u l} : UpM a c ((a, u) :: l) ((a, c) :: l)
  | tail {p l l'} : UpM a c l l' → UpM a c (p :: l) (p :: l')
theorem UpM.keys {a c l l'} (h : UpM a c l l') : Mine.keys l' = Mine.keys l := by
  induction h with
  | head => rfl
  | tail _ ih => simpa [Mine.keys] using ih
theorem UpM.has {a c l l'} (h : UpM a c l l') : a ∈ Mine.keys l := by
  induction h with
  | head => simp [Mine.keys]
  | tail _ ih => simpa [Mine.keys] using .inr (by simpa [Mine.keys] using ih)
theorem UpM.mem {a c l l'} (h : UpM a c l l') : (Mine.keys l).Nodup → ∀ p, p ∈ l' → p = (a, c) ∨ (p ∈ l ∧ p.1 ≠ a) := by
  induction h with
  | @head u l =>
    intro nd p hm
    rcases List.mem_cons.mp hm with h | h
    · exact .inl h
    · refine .inr ⟨.tail _ h, ?_⟩
      rintro rfl
      simp only [Mine.keys, List.map_cons, List.nodup_cons] at nd
      exact nd.1 (List.mem_map_of_mem (f := (·.1)) h)
  | @tail q l l' hu ih =>
    intro nd p hm
    rcases List.mem_cons.mp hm with h | h
    · subst h
      refine .inr ⟨.head _, ?_⟩
      rintro rfl
      simp only [Mine.keys, List.map_cons, List.nodup_cons] at nd
      exact nd.1 hu.has
    · simp only [Mine.keys, List.map_cons, List.nodup_cons] at nd
      rcases ih nd.2 p h with h | h
      · exact .inl h
      · exact .inr ⟨.tail _ h.1, h.2⟩

theorem Rel.setMem (r : Rel X σ Z s) {a : Addr} {c : Cell} {mem' : List (Addr × Cell)} (hu : UpM a c σ.mem mem') {h' : Heap} (hs : Heap.SameBut a s.heap h')
    (hc : CellRel X.prog X.w Z h' a c) : Ext X σ Z s { σ with mem := mem' } Z { s with heap := h' } := by
  have hk := hu.keys
  have hL : a ∈ foot X σ := List.mem_cons_of_mem _ (List.mem_append_right _ hu.has)
  have nd := r.nd
  have k : ∀ b o, s.heap.get? b = some o → b ∉ foot X σ → h'.get? b = some o := fun b o e hb => (hs.2 b (fun h => hb (h ▸ hL))).trans e
  have ft : foot X { σ with mem := mem' } = foot X σ := by unfold foot; rw [hk]
  have nd2 : (keys σ.mem).Nodup := by
    unfold foot at nd
    exact (List.nodup_append.mp (List.nodup_cons.mp nd).2).2.1
  have neL : X.env.locals ≠ a := fun e => by
    unfold foot at nd
    exact (List.nodup_cons.mp nd).1 (e ▸ List.mem_append_right _ hu.has)
  refine ⟨⟨⟨r.fr.lnd, r.fr.lk, r.fr.ck, r.fr.cnd, r.fr.cinj, r.fr.pk, r.fr.dbg, r.fr.kind⟩, fun b o e => foot_keep r (fun b o e hb _ => k b o e hb) b o e, r.st, r.ztab, r.oldKeep k, r.os, r.gens, ?_, ?_, r.cap, fun c' hc' => ?_, ?_, by rw [ft]; exact r.nd, by rw [ft]; exact r.zfoot, by rw [ft]; exact r.bfoot, ?_, r.g3, by rw [hk]; exact r.low⟩,
    fun _ _ e => e, fun b o e hb _ => k b o e hb, fun b h => .inl (by rw [← hk]; exact h), fun _ _ h => .inl h⟩
  · obtain ⟨m, hn, hm⟩ := r.ns; exact ⟨m, hn.sameBut hs neL, hm⟩
  · intro y ov hy
    obtain ⟨c', uo, ho, hc', hv, hr⟩ := r.cells y ov hy
    refine ⟨c', uo, ho, hc', hv.sameBut hs ?_, hr⟩
    rintro rfl
    unfold foot at nd
    exact (List.nodup_append.mp (List.nodup_cons.mp nd).2).2.2 _ ho _ hu.has rfl
  · obtain ⟨uo, hv⟩ := r.ownc c' hc'
    refine ⟨uo, hv.sameBut hs ?_⟩
    rintro rfl
    unfold foot at nd
    exact (List.nodup_append.mp (List.nodup_cons.mp nd).2).2.2 _ hc' _ hu.has rfl
  · intro p hp
    rcases hu.mem nd2 p hp with rfl | ⟨hp, hne⟩
    · exact hc
    · exact (r.mem p hp).mono (fun _ _ e => e) fun o e => (hs.2 _ hne).trans e
  · rw [ft]; intro b hb
    by_cases h : b = a
    · subst h
      revert hc
      cases c <;> intro hc
      · obtain ⟨_, ⟨_, h⟩, _⟩ := hc; exact ⟨_, h⟩
      · obtain ⟨_, ⟨o, _, _, h, _⟩, _⟩ := hc; exact ⟨o, h⟩
      · obtain ⟨_, ⟨o, _, _, h, _⟩, _⟩ := hc; exact ⟨o, h⟩
      · obtain ⟨_, ⟨o, _, _, h, _⟩, _⟩ := hc; exact ⟨o, h⟩
      · obtain ⟨o, h, _⟩ := hc; exact ⟨o, h⟩
    · obtain ⟨o, ho⟩ := r.ex b hb; exact ⟨o, (hs.2 b h).trans ho⟩

/-! calls -/
noncomputable def CALL (X : Cx) (f : Value) (ds : List V) (σ : St) (P : V → St → Prop) : Prop :=
  ∀ Z s vs, Rel X σ Z s → VsRel X.prog X.w Z ds vs → wpAny (model X.prog X.w) X.A (call f vs []) (Post X (RV X) σ Z s P) Nope s

noncomputable def Keep (X : Cx) (σ : St) (f : Value) : Prop := ∀ Z s (Q : Keeper → Shared → Prop), Rel X σ Z s → (∀ k, Q k s) → wpAny (model X.prog X.w) X.A (keeperOf f) Q Nope s
theorem Keep.builtin {id} : Keep X σ (.builtin id) := fun Z s Q r h => wpAny_pure (h _)
theorem Keep.type {T} : Keep X σ (.type T) := fun Z s Q r h => wpAny_pure (h _)
theorem Rel.base (r : Rel X σ Z s) {a : Addr} {o : Obj} (h : X.base.get? a = some o) (hc : o.cls ≠ .none) : s.heap.get? a = some o :=
  r.zin _ _ (r.st _ _ h fun hh0 => by obtain ⟨o', vs, ho', hc', _⟩ := hh0; rw [h] at ho'; cases ho'; exact hc hc')
theorem Keep.func {a o fd} (ho : X.base.get? a = some o) (hd : o.data = .func fd) (hc : o.cls ≠ .none) : Keep X σ (.ref a) := fun Z s Q r h => by
  unfold keeperOf
  refine wpAny_bind (wpAny_load (r.base ho hc) ?_)
  rw [hd]
  exact wpAny_pure (h _)
theorem Keep.funcZ {a o fd} (ho : ∀ Z s, Rel X σ Z s → s.heap.get? a = some o) (hd : o.data = .func fd) : Keep X σ (.ref a) := fun Z s Q r h => by
  unfold keeperOf
  refine wpAny_bind (wpAny_load (ho Z s r) ?_)
  rw [hd]
  exact wpAny_pure (h _)

theorem backTo_plain {pos : Pos} {l : List (Bool × Sem Value)} : (l.any (·.1)) = false → (backTo pos l).any (·.1) = false := by
  intro h
  unfold backTo
  rw [List.any_map]
  exact h

theorem evalArgs_any {M : Model} {A : Around} {E : Value → Shared → Prop} {s : Shared} {f : Value} {args : List (Bool × Sem Value)} {Q : Args → Shared → Prop} (hp : args.any (·.1) = false)
    (h : wpAny M A (spliced args) (fun vs s' => Q ⟨vs, []⟩ s') E s) : wpAny M A (evalArgs f true args []) Q E s := by
  match args, hp with
  | [], _ =>
    unfold evalArgs
    show wpAny M A (spliced [] >>= _) Q E s
    refine wpAny_bind (wpAny_mono h (fun vs s1 h1 => wpAny_bind (wpAny_pure ?_)) fun _ _ h => h)
    refine wpAny_holding ?_
    exact wpAny_bind (wpAny_pure (wpAny_bind (wpAny_pure (wpAny_pure h1))))
  | (b, x) :: rest, hp =>
    simp only [List.any_cons, Bool.or_eq_false_iff] at hp
    obtain ⟨rfl, _⟩ := hp
    exact evalArgs_plain h

theorem callWith_gen {M : Model} {A : Around} {E : Value → Shared → Prop} {s : Shared} {pos : Pos} {f : Value} {first : List Value} {args : List (Bool × Sem Value)} {Q : Value → Shared → Prop} (hp : args.any (·.1) = false)
    (h : wpAny M A (spliced args) (fun vs s₁ => (∀ (Q : Keeper → Shared → Prop), (∀ k, Q k s₁) → wpAny M A (keeperOf f) Q E s₁) ∧ wpAny M A (call f (first ++ vs) []) Q E s₁) E s) :
    wpAny M A (callWith pos f first args []) Q E s := by
  unfold callWith
  refine wpAny_bind (wpAny_holding (wpAny_mono (evalArgs_any hp (Q := fun a s₁ => a.kw = [] ∧ (∀ (Q : Keeper → Shared → Prop), (∀ k, Q k s₁) → wpAny M A (keeperOf f) Q E s₁) ∧ wpAny M A (call f (first ++ a.pos) []) Q E s₁) (wpAny_mono h (fun vs s1 h1 => ⟨rfl, h1⟩) fun _ _ h => h)) (fun a s1 h1 => wpAny_bind (wpAny_standAt ?_)) fun _ _ h => h))
  obtain ⟨hk, hkeep, hc⟩ := h1
  obtain ⟨apos, akw⟩ := a
  simp only at hk hc
  subst hk
  rw [hp]
  have fin : ∀ {t : Sem Value}, wpAny M A t Q E s1 → wpAny M A (t >>= fun r => holding [r] point >>= fun _ => pure r) Q E s1 := fun h => wpAny_bind (wpAny_mono h (fun r s2 h2 => wpAny_bind (wpAny_holding (wpAny_point (wpAny_pure h2)))) fun _ _ h => h)
  refine wpAny_bind (hkeep _ fun k => ?_)
  cases k with
  | frame =>
    show wpAny M A (if _ > 30 then _ else _) Q E s1
    split
    · exact fin hc
    · exact fin (wpAny_keep hc)
  | boundFrame =>
    show wpAny M A (if _ > 30 then _ else _) Q E s1
    split
    · exact fin hc
    · exact fin (wpAny_keep hc)
  | machine => exact fin hc
  | caller => exact fin (wpAny_operating hc)

/-- the callee is told first -/
theorem EV.call {func args pos} (h : EV X func σ fun f σ1 => ∃ fv, (∀ Z v, VRel X.prog X.w Z f v → v = fv) ∧ EVs X pos args σ1 fun ds σ2 => Keep X σ2 fv ∧ CALL X fv ds σ2 P)
    (hp : ∀ env, (starEach args env).any (·.1) = false := by intro _; rfl)
    (he : ∀ env, eval (.Call func args [] pos) env = (do callWith pos (← eval func env) [] (backTo pos (starEach args env)) (backToKw pos (keywordEach [] env))) := by intro _; rfl) : EV X (.Call func args [] pos) σ P := fun Z s r => by
  rw [he]
  refine wpAny_bind (J.use h r fun Z1 s1 σ1 f v x1 r1 h1 => ?_)
  obtain ⟨fv, hf, h2⟩ := h1
  cases hf _ _ r1
  refine callWith_gen (backTo_plain (hp _)) (J.use h2 x1.rel fun Z2 s2 σ2 ds vs x2 r2 h3 => ?_)
  refine ⟨fun Q hQ => h3.1 Z2 s2 Q x2.rel hQ, ?_⟩
  exact wpAny_mono (h3.2 Z2 s2 vs x2.rel r2) (fun _ _ q => q.lift (x1.trans x2)) fun _ _ h => h

/-- a method of a built-in type -/
noncomputable def TypeV (X : Cx) (σ : St) (d : V) (T : String) : Prop := ∀ Z s v, Rel X σ Z s → VRel X.prog X.w Z d v → s.TypeIs v T ∧ (∀ a, v = .ref a → ∃ ob, s.heap.get? a = some ob ∧ ob.dict = none)
theorem TypeV.list {l} : TypeV X σ (.list l) "list" := fun Z s v r hh0 => by
  obtain ⟨a, its, n, e, z, _⟩ := hh0
  subst e; exact ⟨⟨_, r.zin _ _ z, rfl⟩, fun b e => by cases e; exact ⟨_, r.zin _ _ z, rfl⟩⟩
theorem TypeV.str {x} : TypeV X σ (.str x) "str" := fun Z s v r hh0 => by
  obtain ⟨t, e⟩ := hh0
  subst e; exact ⟨rfl, fun b e => by cases e⟩
theorem TypeV.idict {ks l} : TypeV X σ (.idict ks l) "dict" := fun Z s v r hh0 => by
  obtain ⟨a, vs, e, _, z, _⟩ := hh0
  subst e
  have hd := r.pdict z
  exact ⟨hd.typeIs, hd.mapOf.noDict⟩
theorem TypeV.cell {a l} (h : (a, Cell.list l) ∈ σ.mem) : TypeV X σ (.ref a) "list" := fun Z s v r e => by
  cases e
  obtain ⟨its, ⟨n, hp⟩, _⟩ := r.mem _ h
  exact ⟨⟨_, hp, rfl⟩, fun b e => by cases e; exact ⟨_, hp, rfl⟩⟩
theorem EV.meth {o name apos args pos} (T id : String) (pa : PlainAttrs T) (slot : Slot T name id) (hty : typeOf (.builtin id) = pure (.type "method_descriptor"))
    (h : EV X o σ fun d σ1 => TypeV X σ1 d T ∧ EVs X pos args σ1 fun ds σ2 => CALL X (.builtin id) (d :: ds) σ2 P)
    (hbase : ∀ env, attributeBase o name env (eval o env) = eval o env := by intro _; rfl)
    (hfew : ∀ env, ((backTo pos (starEach args env)).all (fun x => !x.1) && (backToKw pos (keywordEach [] env)).all (fun x => x.1.isSome)
      && decide (args.length + ([] : List Keyword).length + (if ([] : List Keyword).isEmpty then 0 else 1) < 30)) = true := by intro _; rfl)
    (hline : (apos.endLine == pos.line) = true := by rfl) (hp : ∀ env, (starEach args env).any (·.1) = false := by intro _; rfl) : EV X (.Call (.Attribute o name apos) args [] pos) σ P := fun Z s r => by
  refine wpAny_Call_method_late (hbase _) (hfew _) hline rfl (J.use h r fun Z1 s1 σ1 d v x1 r1 h1 => ?_)
  obtain ⟨ht, h2⟩ := h1
  obtain ⟨ht1, ht2⟩ := ht Z1 s1 v x1.rel r1
  refine ⟨T, id, pa, slot, hty, ht1, ht2, ?_⟩
  refine callWith_gen (backTo_plain (hp _)) (J.use h2 x1.rel fun Z2 s2 σ2 ds vs x2 r2 h3 => ?_)
  refine ⟨fun Q hQ => wpAny_pure (hQ _), ?_⟩
  exact wpAny_mono (h3 Z2 s2 (v :: vs) x2.rel ⟨v, vs, rfl, r1.mono x2.le, r2⟩) (fun _ _ q => q.lift (x1.trans x2)) fun _ _ h => h
end
end Mine
end
section
open PySem PySem.Spec PySem.Calls PyProof.Rows PySem.W
namespace Mine
section
variable {X : Cx} {σ σ' : St} {Z Z' : ZM} {s s' : Shared} {P : V → St → Prop}

/-- room for k more calls, nothing handled -/
structure Rm (A : Around) (k : Nat) : Prop where
  handled : A.handled = none
  depth : A.depth + k ≤ 900
  units : A.units + 10 * k ≤ 9000
theorem Rm.deeper {A : Around} {k : Nat} {env : Env} (h : Rm A (k + 1)) : Rm (A.deeper env) k := ⟨h.handled, by have := h.depth; show A.depth + 1 + k ≤ 900; omega, by have := h.units; show A.units + 3 + 10 * k ≤ 9000; omega⟩
theorem Rm.in1 {A : Around} {k : Nat} (h : Rm A (k + 1)) : Rm A.in1 k := ⟨h.handled, by have := h.depth; show A.depth + k ≤ 900; omega, by have := h.units; show A.units + 1 + 10 * k ≤ 9000; omega⟩
theorem Rm.le {A : Around} {k k' : Nat} (h : Rm A k) (hk : k' ≤ k) : Rm A k' := ⟨h.handled, by have := h.depth; omega, by have := h.units; omega⟩
theorem Rm.room {A : Around} {k : Nat} (h : Rm A k) : A.depth < recursionLimit := by have := h.depth; unfold recursionLimit; omega
theorem Rm.cl {A : Around} {k : Nat} (h : Rm A k) : A.units + 800 < cLine := by have := h.units; unfold cLine; omega

theorem Ext.keepAll (r : Rel X σ Z s) {h' : Heap} {tk : Nat} (hk : ∀ b o, s.heap.get? b = some o → h'.get? b = some o) : Ext X σ Z s σ Z { s with heap := h', toks := tk } := by
  refine ⟨⟨r.fr, fun a o e => hk _ _ (r.zin a o e), r.st, r.ztab, r.old.step_keeps hk, r.os, r.gens, ?_, ?_, r.cap, (fun c hc => let ⟨uo, hv⟩ := r.ownc c hc; ⟨uo, hv.keeps hk⟩), ?_, r.nd, r.zfoot, r.bfoot, ?_, r.g3, r.low⟩, fun _ _ e => e, fun a o e _ _ => hk _ _ e, fun _ h => .inl h, fun _ _ h => .inl h⟩
  · obtain ⟨m, hn, hm⟩ := r.ns; exact ⟨m, hn.keeps hk, hm⟩
  · intro y ov hy; obtain ⟨c, uo, ho, hc, hv, hr⟩ := r.cells y ov hy; exact ⟨c, uo, ho, hc, hv.keeps hk, hr⟩
  · intro p hp; exact (r.mem p hp).mono (fun _ _ h => h) (fun o' e => hk _ _ e)
  · intro a ha; obtain ⟨o', ho'⟩ := r.ex a ha; exact ⟨o', hk _ _ ho'⟩

/-- for the rules that speak of a frame and a ledger: no base, all objects but the frame's namespace -/
noncomputable def allNews (h : Heap) (L : Addr) : List (Addr × Obj) := (List.range h.objs.size).filterMap fun a => if a = L then none else (h.get? a).map (a, ·)
theorem mem_allNews {h : Heap} {L a : Addr} {o : Obj} : (a, o) ∈ allNews h L ↔ h.get? a = some o ∧ a ≠ L := by
  unfold allNews
  simp only [List.mem_filterMap, List.mem_range]
  constructor
  · rintro ⟨b, hb, e⟩
    split at e
    · cases e
    · rename_i hne
      cases hg : h.get? b with
      | none => rw [hg] at e; cases e
      | some o' => rw [hg] at e; cases e; exact ⟨hg, hne⟩
  · rintro ⟨e, hne⟩
    exact ⟨a, Heap.lt_size e, by rw [if_neg hne, e]; rfl⟩
noncomputable def noHeap : Heap := {}
theorem noHeap_get (a : Addr) : noHeap.get? a = none := by unfold Heap.get? noHeap; simp
theorem Rel.frame (r : Rel X σ Z s) {m : Str → Option Value} (hn : s.heap.Ns X.env.locals m) : Fr noHeap X.env.locals s.heap m := ⟨hn, (fun b o e => by rw [noHeap_get] at e; cases e), Nat.zero_le _⟩
theorem Rel.news (r : Rel X σ Z s) : News noHeap X.env.locals s.heap (allNews s.heap X.env.locals) := fun p hp => by
  obtain ⟨a, o⟩ := p
  obtain ⟨e, hne⟩ := mem_allNews.mp hp
  exact ⟨e, hne, noHeap_get _⟩
theorem Ext.ofFr (r : Rel X σ Z s) {m : Str → Option Value} {h' : Heap} {tk : Nat} (hm : ∀ y ov, (y, ov) ∈ σ.loc → ORel X.prog X.w Z ov (m y)) (F : Fr noHeap X.env.locals h' m) (N : News noHeap X.env.locals h' (allNews s.heap X.env.locals)) :
    Ext X σ Z s σ Z { s with heap := h', toks := tk } := by
  have k : ∀ b o, s.heap.get? b = some o → b ≠ X.env.locals → h'.get? b = some o := fun b o e hb => (N (b, o) (mem_allNews.mpr ⟨e, hb⟩)).1
  have hL : X.env.locals ∈ foot X σ := List.mem_cons_self
  have nd := r.nd
  unfold foot at nd
  have k2 : ∀ b o, s.heap.get? b = some o → b ∉ foot X σ → h'.get? b = some o := fun b o e hb => k b o e fun h => hb (h ▸ hL)
  refine ⟨⟨r.fr, fun a o e => foot_keep r (fun b o e hb _ => k2 b o e hb) a o e, r.st, r.ztab, r.oldKeep k2, r.os, r.gens, ⟨m, F.ns, hm⟩, ?_, r.cap, fun c hc => ?_, ?_, r.nd, r.zfoot, r.bfoot, ?_, r.g3, r.low⟩, fun _ _ e => e, fun a o e hf _ => k2 _ _ e hf, fun _ h => .inl h, fun _ _ h => .inl h⟩
  · intro y ov hy
    obtain ⟨c, uo, hw, hc, ⟨o, ho, hd⟩, hr⟩ := r.cells y ov hy
    refine ⟨c, uo, hw, hc, ⟨o, k _ _ ho ?_, hd⟩, hr⟩
    rintro rfl
    exact (List.nodup_cons.mp nd).1 (List.mem_append_left _ hw)
  · obtain ⟨uo, o, ho, hd⟩ := r.ownc c hc
    refine ⟨uo, o, k _ _ ho ?_, hd⟩
    rintro rfl
    exact (List.nodup_cons.mp nd).1 (List.mem_append_left _ hc)
  · intro p hp
    refine (r.mem p hp).mono (fun _ _ h => h) (fun o' e => k _ _ e ?_)
    intro h
    unfold keys at nd
    exact (List.nodup_cons.mp nd).1 (List.mem_append_right _ (List.mem_map.mpr ⟨p, hp, h⟩))
  · intro a ha
    by_cases h : a = X.env.locals
    · subst h; obtain ⟨o, _, _, ho, _⟩ := F.ns; exact ⟨o, ho⟩
    · obtain ⟨o', ho'⟩ := r.ex a ha; exact ⟨o', k _ _ ho' h⟩

/-! what a callee's frame (a comprehension's) leaves to the caller -/
noncomputable def Zout (Z : ZM) (S : List Addr) : ZM := fun a => if a ∈ S then none else Z a
section
variable {prog : Program} {w : World} {S : List Addr} (hS : ∀ a o, a ∈ S → Z a = some o → ∃ v, o.data = .cell v)
include hS
theorem zout_at {a : Addr} {o : Obj} (h : Z a = some o) (hd : ∀ v, o.data ≠ .cell v) : Zout Z S a = some o := by
  unfold Zout
  split
  · rename_i hm; obtain ⟨v, e⟩ := hS a o hm h; exact absurd e (hd v)
  · exact h
mutual
theorem VRel.out : ∀ {d : V} {v : Value}, VRel prog w Z d v → VRel prog w (Zout Z S) d v
  | .none, _, h => h
  | .bool _, _, h => h
  | .int _, _, h => h
  | .str _, _, h => h
  | .tup _, _, h => by obtain ⟨a, its, n, e, z, r⟩ := h; exact ⟨a, its, n, e, zout_at hS z (by intro v h; cases h), VsRel.out r⟩
  | .list _, _, h => by obtain ⟨a, its, n, e, z, r⟩ := h; exact ⟨a, its, n, e, zout_at hS z (by intro v h; cases h), VsRel.out r⟩
  | .sdict _ _, _, h => by obtain ⟨a, vs, e, lo, ⟨o, es, ep, z, q, hd, q2⟩, l, r⟩ := h; exact ⟨a, vs, e, lo, ⟨o, es, ep, zout_at hS z (by intro v h; rw [hd] at h; cases h), q, hd, q2⟩, l, VsRel.out r⟩
  | .idict _ _, _, h => by obtain ⟨a, vs, e, lo, ⟨o, es, ep, z, q, hd, q2⟩, l, r⟩ := h; exact ⟨a, vs, e, lo, ⟨o, es, ep, zout_at hS z (by intro v h; rw [hd] at h; cases h), q, hd, q2⟩, l, VsRel.out r⟩
  | .rng _ _, _, h => by obtain ⟨r, t, u, x, e, z⟩ := h; exact ⟨r, t, u, x, e, zout_at hS z (by intro v h; cases h)⟩
  | .slc _ _ _, _, h => by obtain ⟨a, lv, uv, sv, e, z, q⟩ := h; exact ⟨a, lv, uv, sv, e, zout_at hS z (by intro v h; cases h), q⟩
  | .view _ _, _, h => by obtain ⟨a, da, e, z, q⟩ := h; exact ⟨a, da, e, zout_at hS z (by intro v h; cases h), VRel.out q⟩
  | .ref _, _, h => h
  | .lit _, _, h => h
  | .raw _ k, _, h => k _ _ _ (fun a o e hd => zout_at hS e hd) h
theorem VsRel.out : ∀ {l : List V} {vs : List Value}, VsRel prog w Z l vs → VsRel prog w (Zout Z S) l vs
  | [], _, h => h
  | _ :: _, _, h => by obtain ⟨v, r, e, h, q⟩ := h; exact ⟨v, r, e, VRel.out h, VsRel.out q⟩
end
theorem CellRel.out {h : Heap} {a : Addr} : ∀ {c : Cell}, CellRel prog w Z h a c → CellRel prog w (Zout Z S) h a c
  | .list _, h => by obtain ⟨its, p, r⟩ := h; exact ⟨its, p, r.out hS⟩
  | .sdict _ _, h => by obtain ⟨vs, p, l, r⟩ := h; exact ⟨vs, p, l, r.out hS⟩
  | .idict _ _, h => by obtain ⟨vs, p, l, r⟩ := h; exact ⟨vs, p, l, r.out hS⟩
  | .ns _, h => by
    obtain ⟨m, n, r, q'⟩ := h
    exact ⟨m, n, fun x d hx => by obtain ⟨v, hv, q⟩ := r x d hx; exact ⟨v, hv, q.out hS⟩, q'⟩
  | .raw _, h => h
end

theorem leave' {A' : Around} {env' : Env} {own' : List Addr} {σ₁ : St} {Z₁ : ZM} {s₁ : Shared} {sub rest : List (Addr × Cell)} (r : Rel X σ Z s) (hmem : σ.mem = sub ++ rest) (hk₁ : ∀ b o, s.heap.get? b = some o → s₁.heap.get? b = some o)
    (hle : Z.le Z₁) (hz₁ : ∀ a o, Z₁ a = some o → Z a = some o ∨ (a ∈ X.own ∧ ∃ v, o.data = .cell v)) (hf : ∀ b ∈ foot { X with A := A', env := env', own := own' } σ₁, b ∈ keys sub ∨ s.heap.get? b = none)
    (xrel : Rel { X with A := A', env := env', own := own' } σ' Z' s') (xle : Z₁.le Z')
    (xkeep : ∀ a o, s₁.heap.get? a = some o → a ∉ foot { X with A := A', env := env', own := own' } σ₁ → ¬ Tb X a → s.heap.get? a ≠ none → s'.heap.get? a = some o)
    (xnew : ∀ a ∈ keys σ'.mem, a ∈ keys σ₁.mem ∨ s₁.heap.get? a = none) (xznew : ∀ a o, Z' a = some o → Z₁ a = some o ∨ a ∈ keys σ₁.mem ∨ s₁.heap.get? a = none) :
    Ext X σ Z s { σ with mem := σ'.mem ++ rest } (Zout Z' X.own) s' ∧ ∀ a o, a ∈ X.own → Z' a = some o → ∃ v, o.data = .cell v := by
  have r' := xrel
  have nd := r.nd
  have e2 : keys σ.mem = keys sub ++ keys rest := by rw [hmem]; exact List.map_append
  have fsub : ∀ b ∈ keys sub, b ∈ foot X σ := fun b hb => by unfold foot; rw [e2]; exact List.mem_cons_of_mem _ (List.mem_append_right _ (List.mem_append_left _ hb))
  have frest : ∀ b ∈ keys rest, b ∈ foot X σ := fun b hb => by unfold foot; rw [e2]; exact List.mem_cons_of_mem _ (List.mem_append_right _ (List.mem_append_right _ hb))
  have inL : X.env.locals ∈ foot X σ := List.mem_cons_self
  have inC : ∀ c ∈ X.own, c ∈ foot X σ := fun c hc => List.mem_cons_of_mem _ (List.mem_append_left _ hc)
  unfold foot at nd
  rw [e2] at nd
  have n1 := List.nodup_cons.mp nd
  have n2 := List.nodup_append.mp n1.2
  have n3 := List.nodup_append.mp n2.2.1
  have fL : X.env.locals ∉ keys sub := fun hm => n1.1 (List.mem_append_right _ (List.mem_append_left _ hm))
  have fC : ∀ c ∈ X.own, c ∉ keys sub := fun c hc hm => n2.2.2 c hc c (List.mem_append_left _ hm) rfl
  have fR : ∀ c ∈ keys rest, c ∉ keys sub := fun c hc hm => n3.2.2 c hm c hc rfl
  have notb : ∀ b ∈ foot X σ, ¬ Tb X b := fun b hb ht => by
    obtain ⟨ob, _, e, _⟩ := ht
    rw [r.bfoot b hb] at e; cases e
  have kp : ∀ b o, s.heap.get? b = some o → b ∉ keys sub → ¬ Tb X b → s'.heap.get? b = some o := fun b o e hb ht => by
    refine xkeep b o (hk₁ _ _ e) (fun hm => ?_) ht (by rw [e]; simp)
    rcases hf b hm with h | h
    · exact hb h
    · rw [h] at e; cases e
  have gone : ∀ b, s₁.heap.get? b = none → s.heap.get? b = none := fun b h => by
    cases e : s.heap.get? b with
    | none => rfl
    | some o' => rw [hk₁ b o' e] at h; cases h
  have ks : ∀ b ∈ keys σ'.mem, b ∈ keys sub ∨ s.heap.get? b = none := fun b hb => by
    rcases xnew b hb with h | h
    · exact hf b (List.mem_cons_of_mem _ (List.mem_append_right _ h))
    · exact .inr (gone b h)
  have notks : ∀ b ∈ foot X σ, b ∉ keys sub → b ∉ keys σ'.mem := fun b hb hs hm => by
    rcases ks b hm with h | h
    · exact hs h
    · obtain ⟨o', ho'⟩ := r.ex b hb; rw [h] at ho'; cases ho'
  have zn : ∀ b, b ∈ foot X σ → b ∉ keys sub → ∀ o, Z' b = some o → b ∈ X.own ∧ ∃ v, o.data = .cell v := fun b hb hs o e => by
    obtain ⟨o2, h2⟩ := r.ex b hb
    rcases xznew b o e with h | h | h
    · rcases hz₁ b o h with h | h
      · rw [r.zfoot b hb] at h; cases h
      · exact h
    · rcases hf b (List.mem_cons_of_mem _ (List.mem_append_right _ h)) with h | h
      · exact absurd h hs
      · rw [h] at h2; cases h2
    · rw [gone b h] at h2; cases h2
  have hS : ∀ a o, a ∈ X.own → Z' a = some o → ∃ v, o.data = .cell v := fun a o ha e => (zn a (inC a ha) (fC a ha) o e).2
  have zo : ∀ a o, Zout Z' X.own a = some o → Z' a = some o := fun a o h => by unfold Zout at h; split at h; cases h; exact h
  have zi : ∀ a o, Z a = some o → Zout Z' X.own a = some o := fun a o h => by
    unfold Zout
    split
    · rename_i hm; rw [r.zfoot a (inC a hm)] at h; cases h
    · exact xle _ _ (hle _ _ h)
  have ft : ∀ b, b ∈ foot X { σ with mem := σ'.mem ++ rest } ↔ b = X.env.locals ∨ b ∈ X.own ∨ b ∈ keys σ'.mem ∨ b ∈ keys rest := fun b => by
    unfold foot keys; simp only [List.map_append, List.mem_cons, List.mem_append]
  have ng : ∀ b ∈ foot X σ, b ∉ keys sub → Zout Z' X.own b = none := fun b hb hs => by
    cases e : Zout Z' X.own b with
    | none => rfl
    | some o =>
      have := zn b hb hs o (zo _ _ e)
      unfold Zout at e
      rw [if_pos this.1] at e; cases e
  refine ⟨⟨⟨⟨r.fr.lnd, r.fr.lk, r.fr.ck, r.fr.cnd, r.fr.cinj, r.fr.pk, r.fr.dbg, r.fr.kind⟩, fun a o e => r'.zin _ _ (zo _ _ e), fun a o e ht => zi _ _ (r.st a o e ht), fun a ha => ?_, r'.old, r'.os, r'.gens, ?_, ?_, ?_, fun c hc => ?_, ?_, ?_, ?_, ?_, ?_, (let ⟨o3, h3⟩ := r.g3; ⟨o3, zi _ _ h3⟩), ?_⟩, fun a o e => zi _ _ e, fun b o e hf' ht => kp b o e (fun hm => hf' (fsub b hm)) ht, fun b hb => ?_, fun b o' hz => ?_⟩, hS⟩
  · cases e : Zout Z' X.own a with
    | none => rfl
    | some o => have h1 := zo _ _ e; rw [r'.ztab a ha] at h1; cases h1
  · obtain ⟨m, hn, hm⟩ := r.ns
    exact ⟨m, hn.at' fun o e => kp _ _ e fL (notb _ inL), fun y ov hy => (hm y ov hy).mono zi⟩
  · intro y' ov hy
    obtain ⟨c, uo, hw, hcc, ⟨o', ho', hdd⟩, hr⟩ := r.cells y' ov hy
    exact ⟨c, uo, hw, hcc, ⟨o', kp _ _ ho' (fC _ hw) (notb _ (inC _ hw)), hdd⟩, hr.mono zi⟩
  · intro y d hy
    obtain ⟨c, o, v, hcc, hz, hd, hr⟩ := r.cap y d hy
    exact ⟨c, o, v, hcc, zi _ _ hz, hd, hr.mono zi⟩
  · obtain ⟨uo, o, ho, hd⟩ := r.ownc c hc
    exact ⟨uo, o, kp _ _ ho (fC _ hc) (notb _ (inC _ hc)), hd⟩
  · intro p hp
    rcases List.mem_append.mp hp with hp | hp
    · exact (r'.mem p hp).out hS
    · have hm : p.1 ∈ keys rest := List.mem_map_of_mem hp
      exact (r.mem p (by rw [hmem]; exact List.mem_append_right _ hp)).mono zi fun o e => kp _ _ e (fR _ hm) (notb _ (frest _ hm))
  · have nd' := r'.nd
    unfold foot at nd' ⊢
    have e1 : keys { σ with mem := σ'.mem ++ rest }.mem = keys σ'.mem ++ keys rest := List.map_append
    rw [e1]
    refine List.nodup_cons.mpr ⟨fun hm => ?_, List.nodup_append.mpr ⟨n2.1, List.nodup_append.mpr ⟨(List.nodup_append.mp (List.nodup_cons.mp nd').2).2.1, n3.2.1, fun b hb c hc e => ?_⟩, fun b hb c hc e => ?_⟩⟩
    · rcases List.mem_append.mp hm with hm | hm
      · exact n1.1 (List.mem_append_left _ hm)
      · rcases List.mem_append.mp hm with hm | hm
        · exact notks _ inL fL hm
        · exact n1.1 (List.mem_append_right _ (List.mem_append_right _ hm))
    · subst e
      exact notks _ (frest _ hc) (fR _ hc) hb
    · subst e
      rcases List.mem_append.mp hc with hc | hc
      · exact notks _ (inC _ hb) (fC _ hb) hc
      · exact n2.2.2 b hb b (List.mem_append_right _ hc) rfl
  · intro b hb
    rcases (ft b).mp hb with rfl | hb | hb | hb
    · exact ng _ inL fL
    · exact ng _ (inC _ hb) (fC _ hb)
    · cases e : Zout Z' X.own b with
      | none => rfl
      | some o => have h1 := zo _ _ e; rw [r'.zfoot b (List.mem_cons_of_mem _ (List.mem_append_right _ hb))] at h1; cases h1
    · exact ng _ (frest _ hb) (fR _ hb)
  · intro b hb
    rcases (ft b).mp hb with rfl | hb | hb | hb
    · exact r.bfoot _ inL
    · exact r.bfoot _ (inC _ hb)
    · exact r'.bfoot b (List.mem_cons_of_mem _ (List.mem_append_right _ hb))
    · exact r.bfoot _ (frest _ hb)
  · intro b hb
    have kpx : ∀ b ∈ foot X σ, b ∉ keys sub → ∃ o, s'.heap.get? b = some o := fun b hb hs => by
      obtain ⟨o', ho'⟩ := r.ex b hb; exact ⟨o', kp _ _ ho' hs (notb _ hb)⟩
    rcases (ft b).mp hb with rfl | hb | hb | hb
    · exact kpx _ inL fL
    · exact kpx _ (inC _ hb) (fC _ hb)
    · exact r'.ex b (List.mem_cons_of_mem _ (List.mem_append_right _ hb))
    · exact kpx _ (frest _ hb) (fR _ hb)
  · intro b hb
    have e1 : keys ({ σ with mem := σ'.mem ++ rest } : St).mem = keys σ'.mem ++ keys rest := List.map_append
    rw [e1] at hb
    rcases List.mem_append.mp hb with h | h
    · exact r'.low b h
    · exact r.low b (by rw [e2]; exact List.mem_append_right _ h)
  · have e1 : keys { σ with mem := σ'.mem ++ rest }.mem = keys σ'.mem ++ keys rest := List.map_append
    rw [e1] at hb
    rw [e2]
    rcases List.mem_append.mp hb with hb | hb
    · rcases ks b hb with h | h
      · exact .inl (List.mem_append_left _ h)
      · exact .inr h
    · exact .inl (List.mem_append_right _ hb)
  · have hz2 := zo _ _ hz
    rcases xznew b o' hz2 with h | h | h
    · rcases hz₁ b o' h with h | ⟨h, v, hd⟩
      · exact .inl h
      · unfold Zout at hz
        rw [if_pos h] at hz; cases hz
    · rcases hf b (List.mem_cons_of_mem _ (List.mem_append_right _ h)) with h | h
      · exact .inr (.inl (by rw [e2]; exact List.mem_append_left _ h))
      · exact .inr (.inr h)
    · exact .inr (.inr (gone b h))

theorem Ext.leave {A' : Around} {env' : Env} {own' : List Addr} {σ₁ : St} {Z₁ : ZM} {s₁ : Shared} {sub rest : List (Addr × Cell)} (r : Rel X σ Z s) (hmem : σ.mem = sub ++ rest) (hk₁ : ∀ b o, s.heap.get? b = some o → s₁.heap.get? b = some o)
    (hle : Z.le Z₁) (hz₁ : ∀ a o, Z₁ a = some o → Z a = some o ∨ (a ∈ X.own ∧ ∃ v, o.data = .cell v)) (hf : ∀ b ∈ foot { X with A := A', env := env', own := own' } σ₁, b ∈ keys sub ∨ s.heap.get? b = none)
    (x : Ext { X with A := A', env := env', own := own' } σ₁ Z₁ s₁ σ' Z' s') :
    Ext X σ Z s { σ with mem := σ'.mem ++ rest } (Zout Z' X.own) s' ∧ ∀ a o, a ∈ X.own → Z' a = some o → ∃ v, o.data = .cell v :=
  leave' r hmem hk₁ hle hz₁ hf x.rel x.le (fun a o e hf ht _ => x.keep a o e hf ht) x.new x.znew

/-! a def is called -/
noncomputable def Cx.callee (X : Cx) (fd : FuncData) (L a : Addr) : Cx := { X with A := X.A.deeper (callEnvC fd L a), env := callEnvC fd L a, own := (callEnvC fd L a).cells.map (·.2) }

noncomputable def LocOk (ps : List Str) (ds : List V) : List (Str × Option V) → Prop
  | [] => True
  | (_, none) :: r => LocOk ps ds r
  | (x, some d) :: r => (ps.zip ds).lookup x = some d ∧ LocOk ps ds r

noncomputable def scopeOk (names : List (Str × NameKind)) (ps ln cn : List Str) : Bool :=
  decide ln.Nodup && decide cn.Nodup && decide ps.Nodup && decide (names.map (·.1)).Nodup &&
  ln.all (fun x => names.lookup x == some .local) && cn.all (fun x => names.lookup x == some .cell) &&
  (ln ++ cn).all (fun x => !(x == ("__debug__" : Str)) && !(x == ("__classdict__" : Str))) &&
  ps.all (fun x => names.lookup x == some .local || names.lookup x == some .cell)

noncomputable def retV : Fl → V
  | .ret d => d
  | _ => .none

theorem zip_lookup {prog w} {Z : ZM} : ∀ {ps : List Str} {ds : List V} {vs : List Value} {x : Str} {d : V}, VsRel prog w Z ds vs → (ps.zip ds).lookup x = some d → ∃ v, (ps.zip vs).lookup x = some v ∧ VRel prog w Z d v
  | [], _, _, _, _, _, h => by simp at h
  | p :: ps, [], _, _, _, _, h => by simp at h
  | p :: ps, d' :: ds, _, x, d, ⟨v, r, e, hr, hq⟩, h => by
    subst e
    rw [List.zip_cons_cons, List.lookup_cons] at h ⊢
    split at h
    · rename_i e
      cases h
      exact ⟨v, by simp [e], hr⟩
    · rename_i e
      obtain ⟨u, hu, hr'⟩ := zip_lookup hq h
      exact ⟨u, by simp [e, hu], hr'⟩

theorem bindL_at {k : Str → Option NameKind} {x : Str} (hx : k x = some .local) : ∀ (l : List (Str × Value)) (m : Str → Option Value) (v : Value), (l.map (·.1)).Nodup → l.lookup x = some v → bindL k l m x = some v
  | [], m, v, _, h => by simp at h
  | (n, u) :: r, m, v, nd, h => by
    simp only [List.map_cons, List.nodup_cons] at nd
    unfold bindL
    rw [List.lookup_cons] at h
    have rest : ∀ (r : List (Str × Value)) (m : Str → Option Value), x ∉ r.map (·.1) → bindL k r m x = m x := by
      intro r
      induction r with
      | nil => intro m _; rfl
      | cons p r ih =>
        intro m hn
        obtain ⟨n', u'⟩ := p
        simp only [List.map_cons, List.mem_cons, not_or] at hn
        unfold bindL
        rw [ih _ hn.2]
        split
        · exact if_neg hn.1
        · rfl
    split at h
    · rename_i e
      cases h
      cases beq_iff_eq.mp e
      rw [rest r _ nd.1, if_pos hx]
      simp
    · exact bindL_at hx r _ v nd.2 h
theorem bindC_at {k : Str → Option NameKind} {x : Str} (hx : k x = some .cell) : ∀ (l : List (Str × Value)) (m : Str → Option Value) (v : Value), (l.map (·.1)).Nodup → l.lookup x = some v → bindC k l m x = some v
  | [], m, v, _, h => by simp at h
  | (n, u) :: r, m, v, nd, h => by
    simp only [List.map_cons, List.nodup_cons] at nd
    unfold bindC
    rw [List.lookup_cons] at h
    have rest : ∀ (r : List (Str × Value)) (m : Str → Option Value), x ∉ r.map (·.1) → bindC k r m x = m x := by
      intro r
      induction r with
      | nil => intro m _; rfl
      | cons p r ih =>
        intro m hn
        obtain ⟨n', u'⟩ := p
        simp only [List.map_cons, List.mem_cons, not_or] at hn
        unfold bindC
        rw [ih _ hn.2]
        split
        · rfl
        · exact if_neg hn.1
    split at h
    · rename_i e
      cases h
      cases beq_iff_eq.mp e
      rw [rest r _ nd.1, if_neg (by rw [hx]; simp)]
      simp
    · exact bindC_at hx r _ v nd.2 h

theorem locOk_mem {ps : List Str} {ds : List V} : ∀ {l : List (Str × Option V)}, LocOk ps ds l → ∀ {x : Str} {d : V}, (x, some d) ∈ l → (ps.zip ds).lookup x = some d
  | [], _, _, _, h => by cases h
  | (_, none) :: r, h, x, d, hm => by
    rcases List.mem_cons.mp hm with e | hm
    · cases e
    · exact locOk_mem (l := r) h hm
  | (_, some _) :: r, h, x, d, hm => by
    rcases List.mem_cons.mp hm with e | hm
    · cases e; exact h.1
    · exact locOk_mem (l := r) h.2 hm

theorem cellsFrom_kind {names : List (Str × NameKind)} {x : Str} {n : Nat} (h : names.lookup x = some .cell) : ((cellsFrom n names []).lookup x).isSome = true := cellsFrom_some names n [] (.inl h)

theorem cellsFrom_keys {names : List (Str × NameKind)} {n : Nat} (hnn : (names.map (·.1)).Nodup) : ((cellsFrom n names []).map (·.1)).Nodup := by
  have : ∀ (names : List (Str × NameKind)) (n : Nat) (acc : List (Str × Addr)), (names.map (·.1)).Nodup → (acc.map (·.1)).Nodup → (∀ x ∈ acc.map (·.1), x ∉ names.map (·.1)) → ((cellsFrom n names acc).map (·.1)).Nodup := by
    intro names
    induction names with
    | nil => intro n acc _ h _; exact h
    | cons p names ih =>
      intro n acc h1 h2 h3
      obtain ⟨nm, kd⟩ := p
      simp only [List.map_cons, List.nodup_cons] at h1
      unfold cellsFrom
      split
      · refine ih _ _ h1.2 ?_ ?_
        · simp only [List.map_cons, List.nodup_cons]
          exact ⟨fun hx => h3 _ hx (by simp), h2⟩
        · intro x hx
          rcases List.mem_cons.mp hx with rfl | hx
          · exact h1.1
          · exact fun hy => h3 x hx (List.mem_cons_of_mem _ hy)
      · exact ih _ _ h1.2 h2 fun x hx hy => h3 x hx (List.mem_cons_of_mem _ hy)
  exact this _ _ _ hnn List.nodup_nil (fun _ h => by cases h)

theorem lookup_mem {l : List (Str × Addr)} {x : Str} {c : Addr} (h : l.lookup x = some c) : (x, c) ∈ l := by
  induction l with
  | nil => cases h
  | cons p l ih =>
    obtain ⟨y, a⟩ := p
    rw [List.lookup_cons] at h
    split at h
    · rename_i e; cases h; rw [beq_iff_eq.mp e]; exact .head _
    · exact .tail _ (ih h)

theorem apart_inj {l : List (Str × Addr)} (h : l.Pairwise fun x y => x.2 ≠ y.2) {x y : Str} {c : Addr} (hx : l.lookup x = some c) (hy : l.lookup y = some c) : x = y := name_of_addr h (lookup_mem hx) (lookup_mem hy)

theorem Rel.codeRec (r : Rel X σ Z s) {cd : Value} {q : Str} (hlim : X.base.NoLimit) (h : X.base.CodeRec cd q) : s.heap.CodeRec cd q := by
  obtain ⟨c, oc, ws, t, e1, e2, e3, e4⟩ := h
  by_cases hz : oc.cls = .none
  · rcases r.old.old c oc e2 with x | ⟨_, _, vs', more, hv', x⟩ | ⟨hcs, _, _, _⟩
    · exact ⟨c, oc, ws, t, e1, x, e3, e4⟩
    · rw [e3] at hv'; cases hv'
      refine ⟨c, _, _, t, e1, x, rfl, ?_⟩
      rw [Array.getElem?_append_left (by have := Array.getElem?_eq_some_iff.mp e4; exact this.1)]; exact e4
    · subst hcs
      obtain ⟨mc, ⟨o2, es2, ep2, h2, h3, _⟩, _⟩ := hlim
      rw [e2] at h2; cases h2; rw [e3] at h3; cases h3
  · exact ⟨c, oc, ws, t, e1, r.base e2 hz, e3, e4⟩

noncomputable def CALLR (X : Cx) (f : Value) (ds : List V) (σ : St) (P : V → St → Prop) : Prop :=
  ∀ Z s vs (R : Result → Shared → Prop), Rel X σ Z s → VsRel X.prog X.w Z ds vs → (∀ v s', Post X (RV X) σ Z s P v s' → R (.ok (.ret v)) s') → codeAny (model X.prog X.w) X.A (.call f ⟨vs, []⟩) R s
theorem CALLR.call {f : Value} {ds : List V} (h : CALLR X f ds σ P) : CALL X f ds σ P := fun Z s vs r hv => wpAny_call (h Z s vs _ r hv fun _ _ q => q)
theorem CALLR.core {a : Addr} {o : Obj} {fd : FuncData} {body : List Stmt} {k : Nat} {ps : List Str} {ds : List V} {loc cel : List (Str × Option V)} {sub rest : List (Addr × Cell)}
    (hA : Rm X.A (k + 1)) (hlim : X.base.NoLimit) (ho : X.base.get? a = some o) (hc : o.cls ≠ .none) (hd : o.data = .func fd) (hbody : fd.body = .stmts body) (hclo : fd.closure = []) (hcd : X.base.CodeRec fd.code fd.qualname)
    (hbind : ∀ vs : List Value, vs.length = ds.length → bindArgs fd ⟨vs, []⟩ = pure (ps.zip vs)) (hlen : ps.length = ds.length)
    (hok : scopeOk fd.scope.names ps (loc.map (·.1)) (cel.map (·.1)) = true) (hl : LocOk ps ds loc) (hcl : LocOk ps ds cel) (hmem : σ.mem = sub ++ rest)
    {Z : ZM} {s : Shared} {vs : List Value} {R : Result → Shared → Prop} (r : Rel X σ Z s) (hvs : VsRel X.prog X.w Z ds vs)
    (go : ∀ L h₁ tk, s.heap.objs.size = L → (∀ b o, s.heap.get? b = some o → h₁.get? b = some o) → (∀ b, L ≤ b → s.heap.get? b = none) → (∀ b ∈ foot (X.callee fd L a) ⟨loc, cel, [], sub⟩, b ∈ keys sub ∨ L ≤ b) → Rel (X.callee fd L a) ⟨loc, cel, [], sub⟩ Z { s with heap := h₁, toks := tk } →
      wpAny (model X.prog X.w) (X.callee fd L a).A (execs body (X.callee fd L a).env) (fun f s' => R (.ok (.ret (match f with | .ret v => v | _ => .none))) s') Nope { s with heap := h₁, toks := tk })
    (hco : fd.scope.isCoroutine = false := by rfl) (hgen : fd.scope.isGenerator = false := by rfl) (hk : fd.scope.kind = .function := by rfl) : codeAny (model X.prog X.w) X.A (.call (.ref a) ⟨vs, []⟩) R s := by
  have hkeep := r.base ho hc
  simp only [scopeOk, Bool.and_eq_true, decide_eq_true_eq, List.all_eq_true, beq_iff_eq, Bool.or_eq_true, Bool.not_eq_true'] at hok
  obtain ⟨⟨⟨⟨⟨⟨⟨hln, hcn⟩, hpn⟩, hnn⟩, hlk⟩, hck⟩, hdb⟩, hpk⟩ := hok
  have hvl : ps.length = vs.length := by rw [hlen, hvs.length]
  have hzn : ((ps.zip vs).map (·.1)) = ps := List.map_fst_zip (Nat.le_of_eq hvl)
  refine codeAny_call_cells hA.room hkeep hd (r.nolim hlim) (r.codeRec hlim hcd) hbody (hbind vs hvs.length) hclo (fun x hx => ?_) (fun s₁ y => ?_) hco hgen hk
  · have : x.1 ∈ ps := by rw [← hzn]; exact List.mem_map_of_mem hx
    rcases hpk _ this with h1 | h1
    · exact .inl h1
    · exact .inr ⟨h1, cellsFrom_kind h1⟩
  · obtain ⟨h₁, tk, rfl, hk₁⟩ := y.done
    generalize hL : s.heap.objs.size = L at *
    have ltL : ∀ b o, s.heap.get? b = some o → b < L := fun b o e => hL ▸ Heap.lt_size e
    have ab : ∀ b ∈ (callEnvC fd L a).cells.map (·.2), L < b := fun b hb => by
      obtain ⟨p, hp, rfl⟩ := List.mem_map.mp hb
      exact y.above p.1 p.2 hp
    have cnames : ((callEnvC fd L a).cells.map (·.1)).Nodup := cellsFrom_keys hnn
    have fsub : ∀ b ∈ keys sub, b ∈ foot X σ := fun b hb => by unfold foot keys; rw [hmem]; simp only [List.map_append, List.mem_cons, List.mem_append]; exact .inr (.inr (.inl hb))
    have none_of : ∀ b, L ≤ b → s.heap.get? b = none := fun b hb => by
      cases e : s.heap.get? b with
      | none => rfl
      | some o' => exact absurd (ltL _ _ e) (Nat.not_lt.mpr hb)
    have ftc : ∀ b ∈ foot (X.callee fd L a) ⟨loc, cel, [], sub⟩, b ∈ keys sub ∨ L ≤ b := fun b hb => by
      rcases List.mem_cons.mp hb with e0 | hb
      · have e0 : b = L := e0
        exact .inr (Nat.le_of_eq e0.symm)
      · rcases List.mem_append.mp hb with hb | hb
        · exact .inr (Nat.le_of_lt (ab _ hb))
        · exact .inl hb
    have r₁ : Rel (X.callee fd L a) ⟨loc, cel, [], sub⟩ Z { s with heap := h₁, toks := tk } := by
      refine ⟨⟨hln, fun p hp => hlk _ (List.mem_map_of_mem hp), fun p hp => hck _ (List.mem_map_of_mem hp), hcn, fun x y' c _ _ h1 h2 => apart_inj y.apart h1 h2, (fun p hp => by cases hp), (fun x hx => hdb x (by simpa using hx)), hk⟩, fun b o e => hk₁ _ _ (r.zin b o e), r.st, r.ztab, r.old.step_keeps hk₁, r.os, r.gens,
        ⟨_, y.toInCall.ns, fun x ov hx => ?_⟩, fun x ov hx => ?_, (fun _ _ h => by cases h), (fun c hc => by obtain ⟨p, hp, rfl⟩ := List.mem_map.mp hc; exact ⟨_, y.cell p.1 p.2 (lookup_of_mem_nodup cnames hp)⟩), fun p hp => (r.mem p (by rw [hmem]; exact List.mem_append_left _ hp)).mono (fun _ _ e => e) fun o e => hk₁ _ _ e, ?_, ?_, ?_, ?_, r.g3, fun b hb => r.low b (by unfold keys; rw [hmem, List.map_append]; exact List.mem_append_left _ hb)⟩
      · cases ov with
        | none => trivial
        | some d =>
          obtain ⟨v, hv, hr⟩ := zip_lookup hvs (locOk_mem hl hx)
          exact ⟨v, bindL_at (hlk _ (List.mem_map_of_mem (f := (·.1)) hx)) _ _ _ (by rw [hzn]; exact hpn) hv, hr⟩
      · have hkx : (callEnvC fd L a).kindOf x = some .cell := hck _ (List.mem_map_of_mem (f := (·.1)) hx)
        have := cellsFrom_kind (n := L + 1) hkx
        obtain ⟨c, hcc⟩ := Option.isSome_iff_exists.mp this
        refine ⟨c, _, List.mem_map.mpr ⟨(x, c), lookup_mem hcc, rfl⟩, hcc, y.cell x c hcc, ?_⟩
        cases ov with
        | none => trivial
        | some d =>
          obtain ⟨v, hv, hr⟩ := zip_lookup hvs (locOk_mem hcl hx)
          exact ⟨v, bindC_at hkx _ _ _ (by rw [hzn]; exact hpn) hv, hr⟩
      · show (L :: ((callEnvC fd L a).cells.map (·.2) ++ keys sub)).Nodup
        refine List.nodup_cons.mpr ⟨fun hm => ?_, List.nodup_append.mpr ⟨?_, ?_, fun b hb c hc e => ?_⟩⟩
        · rcases List.mem_append.mp hm with hm | hm
          · exact Nat.lt_irrefl _ (ab _ hm)
          · obtain ⟨o', ho'⟩ := r.ex _ (fsub _ hm); exact Nat.lt_irrefl _ (ltL _ _ ho')
        · have := y.apart
          rw [List.Nodup, List.pairwise_map]; exact this
        · have nd := r.nd
          unfold foot at nd
          rw [hmem, keys, List.map_append] at nd
          exact (List.nodup_append.mp (List.nodup_append.mp (List.nodup_cons.mp nd).2).2.1).1
        · subst e
          obtain ⟨o', ho'⟩ := r.ex _ (fsub _ hc)
          exact Nat.lt_irrefl _ (Nat.lt_trans (ltL _ _ ho') (ab _ hb))
      · intro b hb
        rcases ftc b hb with hb | hb
        · exact r.zfoot b (fsub _ hb)
        · cases e : Z b with
          | none => rfl
          | some o' => have := r.zin _ _ e; rw [none_of b hb] at this; cases this
      · intro b hb
        rcases ftc b hb with hb | hb
        · exact r.bfoot b (fsub _ hb)
        · cases e : X.base.get? b with
          | none => exact e
          | some o' => obtain ⟨o2, h2⟩ := r.old.there _ _ e; rw [none_of b hb] at h2; cases h2
      · intro b hb
        rcases List.mem_cons.mp hb with e0 | hb
        · have e0 : b = L := e0
          obtain ⟨o', _, _, ho', _⟩ := y.toInCall.ns; exact ⟨o', by rw [e0]; exact ho'⟩
        · rcases List.mem_append.mp hb with hb | hb
          · obtain ⟨p, hp, rfl⟩ := List.mem_map.mp hb
            obtain ⟨o', ho', _⟩ := y.cell p.1 p.2 (lookup_of_mem_nodup cnames hp)
            exact ⟨o', ho'⟩
          · obtain ⟨o', ho'⟩ := r.ex b (fsub _ hb); exact ⟨o', hk₁ _ _ ho'⟩
    exact wpAny_mono (go L h₁ tk rfl hk₁ none_of ftc r₁) (fun _ _ q => q) fun _ _ h => h.elim
theorem CALLR.out {Y : Cx} {Z' : ZM} {f : Flow} {f' : Fl} (hS : ∀ a o, a ∈ X.own → Z' a = some o → ∃ v, o.data = .cell v) (hf : RFl Y Z' f' f) (hp : Y.prog = X.prog) (hw : Y.w = X.w) : RV X (Zout Z' X.own) (retV f') (match (generalizing := false) f with | .ret v => v | _ => .none) := by
  cases f' with
  | next => cases hf; exact vr_none
  | brk => cases hf; exact vr_none
  | cont => cases hf; exact vr_none
  | ret d => obtain ⟨v, rfl, hv⟩ := hf; rw [hp, hw] at hv; exact VRel.out hS hv
theorem CALLR.def {a : Addr} {o : Obj} {fd : FuncData} {body : List Stmt} {k : Nat} {ps : List Str} {ds : List V} {loc cel : List (Str × Option V)} {sub rest : List (Addr × Cell)}
    (hA : Rm X.A (k + 1)) (hlim : X.base.NoLimit) (ho : X.base.get? a = some o) (hc : o.cls ≠ .none) (hd : o.data = .func fd) (hbody : fd.body = .stmts body) (hclo : fd.closure = []) (hcd : X.base.CodeRec fd.code fd.qualname)
    (hbind : ∀ vs : List Value, vs.length = ds.length → bindArgs fd ⟨vs, []⟩ = pure (ps.zip vs)) (hlen : ps.length = ds.length)
    (hok : scopeOk fd.scope.names ps (loc.map (·.1)) (cel.map (·.1)) = true) (hl : LocOk ps ds loc) (hcl : LocOk ps ds cel) (hmem : σ.mem = sub ++ rest)
    (h : ∀ L, EX (X.callee fd L a) body ⟨loc, cel, [], sub⟩ fun f σ' => P (retV f) { σ with mem := σ'.mem ++ rest })
    (hco : fd.scope.isCoroutine = false := by rfl) (hgen : fd.scope.isGenerator = false := by rfl) (hk : fd.scope.kind = .function := by rfl) : CALLR X (.ref a) ds σ P := fun Z s vs R r hvs hR => by
  refine CALLR.core hA hlim ho hc hd hbody hclo hcd hbind hlen hok hl hcl hmem r hvs (fun L h₁ tk hL hk₁ none_of ftc r₁ => ?_) hco hgen hk
  refine wpAny_mono (h L Z _ r₁) (fun f s' q => ?_) fun _ _ h => h.elim
  obtain ⟨Z', σ', f', x, hf, hP⟩ := q
  obtain ⟨x2, hS⟩ := Ext.leave (X := X) (A' := (X.callee fd L a).A) (env' := (X.callee fd L a).env) (own' := (X.callee fd L a).own) r hmem hk₁ (fun _ _ h => h) (fun a o h => .inl h) (fun b hb => (ftc b hb).imp id (none_of b)) x
  exact hR _ _ (here x2 (CALLR.out (Y := X.callee fd L a) hS hf rfl rfl) hP)
theorem CALL.def {a : Addr} {o : Obj} {fd : FuncData} {body : List Stmt} {k : Nat} {ps : List Str} {ds : List V} {loc cel : List (Str × Option V)} {sub rest : List (Addr × Cell)}
    (hA : Rm X.A (k + 1)) (hlim : X.base.NoLimit) (ho : X.base.get? a = some o) (hc : o.cls ≠ .none) (hd : o.data = .func fd) (hbody : fd.body = .stmts body) (hclo : fd.closure = []) (hcd : X.base.CodeRec fd.code fd.qualname)
    (hbind : ∀ vs : List Value, vs.length = ds.length → bindArgs fd ⟨vs, []⟩ = pure (ps.zip vs)) (hlen : ps.length = ds.length)
    (hok : scopeOk fd.scope.names ps (loc.map (·.1)) (cel.map (·.1)) = true) (hl : LocOk ps ds loc) (hcl : LocOk ps ds cel) (hmem : σ.mem = sub ++ rest)
    (h : ∀ L, EX (X.callee fd L a) body ⟨loc, cel, [], sub⟩ fun f σ' => P (retV f) { σ with mem := σ'.mem ++ rest })
    (hco : fd.scope.isCoroutine = false := by rfl) (hgen : fd.scope.isGenerator = false := by rfl) (hk : fd.scope.kind = .function := by rfl) : CALL X (.ref a) ds σ P :=
  (CALLR.def hA hlim ho hc hd hbody hclo hcd hbind hlen hok hl hcl hmem h hco hgen hk).call
end
end Mine
end
section
open PySem PySem.Spec PySem.Calls PyProof.Rows PySem.W
namespace Mine
section
variable {X : Cx} {σ σ' : St} {Z Z' : ZM} {s s' : Shared} {P : V → St → Prop}

/-! unpacking -/
noncomputable def ASs (X : Cx) : List PySem.Expr → List V → St → (St → Prop) → Prop
  | [], [], σ, Q => Q σ
  | t :: ts, d :: ds, σ, Q => AS X t d σ fun σ' => ASs X ts ds σ' Q
  | _, _, _, _ => False
theorem ASs.nil {Q : St → Prop} (h : Q σ) : ASs X [] [] σ Q := h
theorem ASs.cons {t ts d ds} {Q : St → Prop} (h : AS X t d σ fun σ' => ASs X ts ds σ' Q) : ASs X (t :: ts) (d :: ds) σ Q := h
theorem ASs.run {Q : St → Prop} : ∀ {ts : List PySem.Expr} {ds : List V} {vs : List Value} {σ' Z' s'}, ASs X ts ds σ' Q → Ext X σ Z s σ' Z' s' → VsRel X.prog X.w Z' ds vs →
    wpAny (model X.prog X.w) X.A (assignInOrder (ts.map fun t => assign t X.env) vs) (Post X (REq (α := Unit)) σ Z s fun _ σ'' => Q σ'') Nope s'
  | [], [], _, _, _, _, h, x, hr => by cases hr; exact wpAny_pure (here (b := ()) x rfl h)
  | [], _ :: _, _, _, _, _, h, _, _ => h.elim
  | _ :: _, [], _, _, _, _, h, _, _ => h.elim
  | t :: ts, d :: ds, _, σ', Z', s', h, x, ⟨v, r, e, hv, hq⟩ => by
    subst e
    refine wpAny_assignInOrder_more (wpAny_mono (h Z' s' v x.rel hv) (fun _ s2 q => ?_) fun _ _ h => h)
    obtain ⟨Z2, σ2, b, x2, _, h2⟩ := q
    exact ASs.run h2 (x.trans x2) (hq.mono x2.le)

theorem Ext.extBut (r : Rel X σ Z s) {h' : Heap} (hx : Heap.ExtBut s.heap.objs.size s.heap h') : Ext X σ Z s σ Z { s with heap := h' } :=
  (Ext.keepAll r (tk := s.toks) fun b o e => hx b o (Nat.ne_of_lt (Heap.lt_size e)) e : Ext X σ Z s σ Z { s with heap := h', toks := s.toks })

theorem AS.tup {elts kd pos ds} {Q : St → Prop} (hA : X.A.handled = none) (h : ASs X elts ds σ Q) (hlen : elts.length = ds.length)
    (he : ∀ env, (assignEach elts env).map (·.2) = elts.map fun t => assign t env) (hst : ∀ env, (assignEach elts env).findIdx? (·.1) = none) : AS X (.Tuple elts kd pos) (.tup ds) σ Q := fun Z s v r hv => by
  obtain ⟨a, its, n, rfl, ha, hr⟩ := hv
  have ht : s.heap.IsTuple a its := ⟨_, r.zin _ _ ha, rfl, n, rfl⟩
  have hsz : its.size = ds.length := by rw [← hr.length]; simp
  refine wpAny_assign_Tuple hA ht ?_ (hst _) fun h' hx => ?_
  · have := congrArg List.length (he X.env)
    simp only [List.length_map] at this
    rw [this, hlen, hsz]
  · rw [he]
    exact ASs.run h (Ext.extBut r hx) hr

noncomputable def SNs (X : Cx) : List Str → List V → St → (St → Prop) → Prop
  | [], [], σ, Q => Q σ
  | t :: ts, d :: ds, σ, Q => SN X t d σ fun σ' => SNs X ts ds σ' Q
  | _, _, _, _ => False
theorem SNs.nil {Q : St → Prop} (h : Q σ) : SNs X [] [] σ Q := h
theorem SNs.cons {t ts d ds} {Q : St → Prop} (h : SN X t d σ fun σ' => SNs X ts ds σ' Q) : SNs X (t :: ts) (d :: ds) σ Q := h
theorem SNs.run {Q : St → Prop} : ∀ {ts : List Str} {ds : List V} {vs : List Value} {σ' Z' s'}, SNs X ts ds σ' Q → Ext X σ Z s σ' Z' s' → VsRel X.prog X.w Z' ds vs →
    wpAny (model X.prog X.w) X.A (assignInOrder (ts.map fun t => bindName X.env t) vs) (Post X (REq (α := Unit)) σ Z s fun _ σ'' => Q σ'') Nope s'
  | [], [], _, _, _, _, h, x, hr => by cases hr; exact wpAny_pure (here (b := ()) x rfl h)
  | [], _ :: _, _, _, _, _, h, _, _ => h.elim
  | _ :: _, [], _, _, _, _, h, _, _ => h.elim
  | t :: ts, d :: ds, _, σ', Z', s', h, x, ⟨v, r, e, hv, hq⟩ => by
    subst e
    refine wpAny_assignInOrder_more (wpAny_bindName (wpAny_mono (h Z' s' v x.rel hv) (fun _ s2 q => ?_) fun _ _ h => h))
    obtain ⟨Z2, σ2, b, x2, _, h2⟩ := q
    exact SNs.run h2 (x.trans x2) (hq.mono x2.le)
theorem VsRel.reverse {prog w Z} : ∀ {ds : List V} {vs : List Value}, VsRel prog w Z ds vs → VsRel prog w Z ds.reverse vs.reverse
  | [], _, h => by cases h; rfl
  | d :: ds, _, ⟨v, r, e, h, q⟩ => by
    subst e
    rw [List.reverse_cons, List.reverse_cons]
    exact (VsRel.reverse q).append ⟨v, [], rfl, h, rfl⟩

/-- two or three names of the frame at once: the machine stores them from the last on -/
theorem ES.asgSw {ts : List PySem.Expr} {kd value pos tp} {names : List Str} {Q : Fl → St → Prop} (hA : X.A.handled = none) (h : EV X value σ fun d σ1 => ∃ ds, d = .tup ds ∧ ds.length = names.length ∧ SNs X names.reverse ds.reverse σ1 (Q .next))
    (hs : swapsWithSole [.Tuple ts kd tp] value pos.line X.env = pure false) (hw : swappedStores [.Tuple ts kd tp] value X.env = pure (some names)) : ES X (.Assign [.Tuple ts kd tp] value pos) σ Q := fun Z s r => by
  rw [arm_exec_Assign, hs, hw]
  refine wpAny_bind (wpAny_standAt (wpAny_bind (wpAny_pure ?_)))
  simp only [Bool.false_eq_true, if_false]
  refine wpAny_bind (J.use h r fun Z1 s1 σ1 d v x1 r1 h1 => wpAny_bind (wpAny_pure ?_))
  obtain ⟨ds, rfl, hlen, h2⟩ := h1
  obtain ⟨a, its, n, rfl, ha, hr⟩ := r1
  have ht : s1.heap.IsTuple a its := ⟨_, x1.rel.zin _ _ ha, rfl, n, rfl⟩
  have hsz : its.size = names.length := by rw [← hlen, ← hr.length]; simp
  show wpAny _ _ (rule "assign.swapped-stores" >>= fun _ => unpackItems (.ref a) names.length none >>= fun items => assignInOrder (names.reverse.map fun n => bindName X.env n) items.reverse >>= fun _ => (pure Flow.next : Sem Flow)) _ _ _
  refine wpAny_bind (wpAny_rule (wpAny_bind ?_))
  rw [← hsz]
  refine wpAny_unpackItems_tuple hA ht fun h' hx => ?_
  have x2 := Ext.extBut x1.rel hx
  refine wpAny_bind (wpAny_mono (SNs.run h2 (x1.trans x2) hr.reverse) (fun _ s3 q => ?_) fun _ _ h => h)
  obtain ⟨Z3, σ3, b, x3, _, h3⟩ := q
  exact wpAny_pure (here x3 rfl_next h3)

/-! an item of a list or a dict is stored -/
noncomputable def SETI (X : Cx) (o i d : V) (σ : St) (Q : St → Prop) : Prop :=
  ∀ Z s vo vi v, Rel X σ Z s → VRel X.prog X.w Z o vo → VRel X.prog X.w Z i vi → VRel X.prog X.w Z d v → wpAny (model X.prog X.w) X.A (setItem vo vi v) (Post X (REq (α := Unit)) σ Z s fun _ σ' => Q σ') Nope s
theorem ES.asgSub {o i p value pos} {Q : Fl → St → Prop} (h : EV X value σ fun d σ1 => EV X o σ1 fun od σ2 => EV X i σ2 fun id σ3 => SETI X od id d σ3 (Q .next))
    (hs : swapsWith value (some (.Subscript o i p)) pos.line X.env = pure false) : ES X (.Assign [.Subscript o i p] value pos) σ Q := fun Z s r =>
  wpAny_Assign_Subscript (J.use h r fun Z1 s1 σ1 d v x1 r1 h1 => J.use h1 x1.rel fun Z2 s2 σ2 od ov x2 r2 h2 => J.use h2 x2.rel fun Z3 s3 σ3 id iv x3 r3 h3 =>
    wpAny_mono (h3 Z3 s3 ov iv v x3.rel (r2.mono x3.le) r3 (r1.mono fun a o e => x3.le a o (x2.le a o e))) (fun _ s4 q => by
      obtain ⟨Z4, σ4, b, x4, _, h4⟩ := q
      exact here (((x1.trans x2).trans x3).trans x4) rfl_next h4) fun _ _ h => h) hs

theorem VsRel.set {prog w Z} {d : V} {v : Value} (hd : VRel prog w Z d v) : ∀ {l : List V} {vs : List Value} (i : Nat), VsRel prog w Z l vs → VsRel prog w Z (l.set i d) (vs.set i v)
  | [], _, _, h => by cases h; rfl
  | x :: l, _, 0, ⟨u, r, e, h, q⟩ => by subst e; exact ⟨v, r, rfl, hd, q⟩
  | x :: l, _, i + 1, ⟨u, r, e, h, q⟩ => by subst e; exact ⟨u, _, rfl, h, VsRel.set hd i q⟩
theorem PlainList.upd {h : Heap} {a : Addr} {its : Array Value} (hp : h.PlainList a its) (f : Array Value → Array Value) : (h.update a (Obj.mapSeq f)).PlainList a (f its) ∧ Heap.SameBut a h (h.update a (Obj.mapSeq f)) := by
  obtain ⟨n, e⟩ := hp
  refine ⟨?_, Heap.SameBut.update ..⟩
  exact ⟨_, Heap.get?_update_self _ e rfl⟩

theorem SETI.list {a : Addr} {l : List V} {k : Int} {d : V} {Q : St → Prop} {mem'} (hm : (a, Cell.list l) ∈ σ.mem) (hk : 0 ≤ k ∧ k < l.length) (hf : k < 2 ^ 63) (hu : UpM a (.list (l.set k.toNat d)) σ.mem mem') (h : Q { σ with mem := mem' }) :
    SETI X (.ref a) (.int k) d σ Q := fun Z s vo vi v r ho hi hv => by
  cases ho
  obtain ⟨t, rfl⟩ := hi
  obtain ⟨its, hp, hr⟩ := r.mem _ hm
  have hsz : its.size = l.length := by rw [← hr.length]; simp
  obtain ⟨n, e⟩ := id hp
  refine ki_setAt (n := n) e hk.1 hf (by rw [hsz]; exact hk.2) ?_
  obtain ⟨hp', hs⟩ := PlainList.upd hp (·.setIfInBounds k.toNat v)
  exact here (b := ()) (r.setMem hu hs ⟨_, hp', by simpa using VsRel.set hv k.toNat hr⟩) rfl h
end
end Mine
end
section
open PySem PySem.Spec PySem.Calls PyProof.Rows PySem.W
namespace Mine
section
variable {X : Cx} {target : PySem.Expr} {σ σ' : St} {Z Z' : ZM} {s s' : Shared} {P : V → St → Prop}

/-- an iterator at I that gives these items; the objects of Z₀ stay -/
structure Iter (X : Cx) (target : PySem.Expr) (Z₀ : ZM) (I : Addr) (its : List V) (St : Nat → Heap → Prop) : Prop where
  frame : ∀ i h h', St i h → (∀ a o, (a = I ∨ Z₀ a = some o) → h.get? a = some o → h'.get? a = some o) → St i h'
  item : ∀ i (s : Shared) (Z : ZM) (Q : Value → Shared → Prop), i < its.length → St i s.heap → Z₀.le Z → (∀ a o, Z a = some o → s.heap.get? a = some o) → Z I = none →
    (∀ v h' tk Z' d, its[i]? = some d → VRel X.prog X.w Z' d v → Z.le Z' → (∀ a o, Z' a = some o → h'.get? a = some o) → (∀ a o, Z' a = some o → Z a = some o ∨ s.heap.get? a = none) → St (i + 1) h' → (∀ a o, a ≠ I → s.heap.get? a = some o → h'.get? a = some o) → (∃ o, h'.get? I = some o) → Q v { s with heap := h', toks := tk }) →
    wpAny (model X.prog X.w) X.A (pyNext (.ref I)) (fun r s₁ => ∃ v, r = some v ∧ wpAny (model X.prog X.w) X.A (letOwnedTupleGo target (.ref I) v) (fun _ s₂ => Q v s₂) Nope s₁) Nope s
  done : ∀ (s : Shared) (Q : Shared → Prop), St its.length s.heap → (∀ h' tk, (∀ a o, a ≠ I → s.heap.get? a = some o → h'.get? a = some o) → Q { s with heap := h', toks := tk }) →
    wpAny (model X.prog X.w) X.A (pyNext (.ref I)) (fun r s₁ => r = none ∧ Q s₁) Nope s

noncomputable def ITER (X : Cx) (target : PySem.Expr) (σ : St) (d : V) (its : List V) : Prop := ∀ Z s v (Q : Value → Shared → Prop), Rel X σ Z s → VRel X.prog X.w Z d v →
  (∀ o St, o.isFreed = false → Iter X target Z s.heap.objs.size its St → St 0 (s.heap.push o) → Q (.ref s.heap.objs.size) { s with heap := s.heap.push o }) → wpAny (model X.prog X.w) X.A (pyIter v) Q Nope s

theorem go_other {M : Model} {A : Around} {target : PySem.Expr} {I : Addr} {v : Value} {s : Shared} {Q : Unit → Shared → Prop} {o : Obj} (ho : s.heap.get? I = some o) (hc : ∀ n, o.cls = .type n → ["enumerate", "zip", "dict_itemiterator", "dict_reverseitemiterator", "odict_iterator", "itertools.zip_longest", "itertools.pairwise"].contains n = false)
    (h : Q () s) : wpAny M A (letOwnedTupleGo target (.ref I) v) Q Nope s := by
  have key : wpAny M A (do
      let (.ref r, .ref a) := (Value.ref I, v) | return
      let o ← load r
      match o.cls, o.data with
      | .type n, .fields vs =>
        if ["enumerate", "zip", "dict_itemiterator", "dict_reverseitemiterator", "odict_iterator", "itertools.zip_longest", "itertools.pairwise"].contains n && vs[0]? == some (rawInt a) then
          rule "for.unpacks-the-owned-tuple"
          updateField r 0 .none
      | _, _ => pure ()) Q Nope s := by
    cases v <;> try exact wpAny_pure h
    refine wpAny_bind (wpAny_load ho ?_)
    split
    · rename_i n vs e1 e2
      rw [hc _ e1]
      simp only [Bool.false_and, Bool.false_eq_true, if_false]
      exact wpAny_pure h
    · exact wpAny_pure h
  cases target with
  | Tuple a b c => exact key
  | List a b => exact key
  | _ => exact wpAny_pure h

theorem getKeep {Z Z₀ : ZM} (hle : Z₀.le Z) (hz : ∀ a o, Z a = some o → s.heap.get? a = some o) {a I : Addr} {o : Obj} (h : Z₀ a = some o) (hI : Z I = none) : a ≠ I := fun e => by
  rw [← e, hle _ _ h] at hI; cases hI

theorem Iter.ofList {Z₀ : ZM} {I l : Addr} {its : List V} {vs : Array Value} {n : Nat} (hA : X.A.handled = none) (hl : Z₀ l = some { cls := .type "list", data := .seq vs n }) (hr : VsRel X.prog X.w Z₀ its vs.toList) :
    Iter X target Z₀ I its (fun i h => h.IsListIter I l i ∧ h.get? l = some { cls := .type "list", data := .seq vs n }) where
  frame := fun i h h' st k => ⟨by obtain ⟨o, ho, q⟩ := st.1; exact ⟨o, k I o (.inl rfl) ho, q⟩, k l _ (.inr hl) st.2⟩
  item := fun i s Z Q hi st hle hz hI k => by
    have hne := getKeep hle hz hl hI
    have hsz : vs.size = its.length := by rw [← hr.length]; simp
    have hiv : i < vs.size := by omega
    refine wpAny_pyNext_list_item st.1 ⟨_, st.2, rfl, n, rfl⟩ (x := vs[i]) (by simp [hiv]) fun h' hit' hs' => ?_
    refine ⟨_, rfl, ?_⟩
    obtain ⟨v, hv, hrv⟩ := hr.get (i := i) (d := its[i]) (by simp [hi])
    have hv' : vs[i] = v := by simpa [hiv] using hv
    obtain ⟨o, ho, hc, hd⟩ := id hit'
    refine go_other ho (fun n e => by rw [hc] at e; cases e; decide) ?_
    exact k _ h' s.toks Z its[i] (by simp [hi]) (hv' ▸ hrv.mono hle) (fun _ _ h => h) (fun a o' e => (hs'.2 a (fun h => by rw [h, hI] at e; cases e)).trans (hz a o' e)) (fun a o' e => .inl e) ⟨hit', (hs'.2 l hne).trans st.2⟩ (fun a o' hb e => (hs'.2 a hb).trans e) ⟨o, ho⟩
  done := fun s Q st k => by
    have hsz : vs.size = its.length := by rw [← hr.length]; simp
    refine wpAny_pyNext_list_end hA st.1 ⟨_, st.2, rfl, n, rfl⟩ (by simp [← hsz]) fun h' he' => ?_
    exact ⟨rfl, k h' s.toks fun a o hb e => he' a o hb e⟩

noncomputable def rangeV (a b : Int) : List V := (List.range (b - a).toNat).map fun i : Nat => V.int (a + (i : Int))
theorem Iter.ofRange {Z₀ : ZM} {I : Addr} {a b : Int} (hA : X.A.handled = none) :
    Iter X target Z₀ I (rangeV a b) (fun i h => IsRangeIter h I (a + (i : Nat)) (((b - a).toNat : Int) - (i : Nat)) 1) where
  frame := fun i h h' st k => k I _ (.inl rfl) st
  item := fun i s Z Q hi st hle hz hI k => by
    have hi' : i < (b - a).toNat := by simpa [rangeV] using hi
    refine wpAny_pyNext_range_item st (by omega) fun h' hit' hs' => ?_
    refine ⟨_, rfl, ?_⟩
    refine go_other hit' (fun n e => by cases e; decide) ?_
    refine k _ h' (s.toks + 1) Z (.int (a + (i : Int))) (by simp [rangeV, hi']) vr_int (fun _ _ h => h) (fun a o' e => (hs'.2 a (fun h => by rw [h, hI] at e; cases e)).trans (hz a o' e)) (fun a o' e => .inl e) ?_ (fun a o' hb e => (hs'.2 a hb).trans e) ⟨_, hit'⟩
    have e1 : a + ((i + 1 : Nat) : Int) = a + (i : Int) + 1 := by omega
    have e2 : ((b - a).toNat : Int) - ((i + 1 : Nat) : Int) = ((b - a).toNat : Int) - (i : Int) - 1 := by omega
    rw [e1, e2]; exact hit'
  done := fun s Q st k => by
    refine wpAny_pyNext_range_end hA st (by simp [rangeV]) fun h' he' => ?_
    exact ⟨rfl, k h' s.toks fun a o hb e => he' a o hb e⟩

noncomputable def signV (x : Str) : List V := x.cps.toList.map fun c => V.str ⟨#[c]⟩
theorem Iter.ofStr {Z₀ : ZM} {I : Addr} {x : Str} {t : Tok} (hA : X.A.handled = none) : Iter X target Z₀ I (signV x) (fun i h => h.IsStrIter I (strIterType x) x t i) where
  frame := fun i h h' st k => by obtain ⟨o, ho, q⟩ := st; exact ⟨o, k I o (.inl rfl) ho, q⟩
  item := fun i s Z Q hi st hle hz hI k => by
    have hi' : i < x.cps.size := by simpa [signV] using hi
    have key : ∀ h', h'.IsStrIter I (strIterType x) x t (i + 1) → Heap.SameBut I s.heap h' → ∃ v, some (Value.str ⟨#[x.cps[i]]⟩ s.toks) = some v ∧ wpAny (model X.prog X.w) X.A (letOwnedTupleGo target (.ref I) v) (fun _ s₂ => Q v s₂) Nope { s with heap := h', toks := s.toks + 1 } := fun h' hit' hs' => by
      refine ⟨_, rfl, ?_⟩
      obtain ⟨o, ho, hc, hd⟩ := id hit'
      refine go_other ho (fun n e => by rw [hc] at e; cases e; unfold strIterType; split <;> decide) ?_
      exact k _ h' (s.toks + 1) Z (.str ⟨#[x.cps[i]]⟩) (by simp [signV, hi']) vr_str (fun _ _ h => h) (fun a o' e => (hs'.2 a (fun h => by rw [h, hI] at e; cases e)).trans (hz a o' e)) (fun a o' e => .inl e) hit' (fun a o' hb e => (hs'.2 a hb).trans e) ⟨_, ho⟩
    revert st key
    unfold strIterType
    split
    · intro st key; exact wpAny_pyNext_ascii_item st (by simp [hi']) key
    · intro st key; exact wpAny_pyNext_wide_item st (by simp [hi']) key
  done := fun s Q st k => by
    have hx : x.cps[(signV x).length]? = none := by simp [signV]
    revert st
    unfold strIterType
    split
    · intro st; exact wpAny_pyNext_ascii_end hA st hx fun h' he' => ⟨rfl, k h' s.toks fun a o hb e => he' a o hb e⟩
    · intro st; exact wpAny_pyNext_wide_end hA st hx fun h' he' => ⟨rfl, k h' s.toks fun a o hb e => he' a o hb e⟩

section
variable {K : Type} [DecidableEq K] {knd : KeyKind X.prog X.w K}
theorem Iter.ofVals {Z₀ : ZM} {I l : Addr} {kvs : List (K × Value)} {ep : Nat} {ob : Obj} {its : List V} (hA : X.A.handled = none) (hl : Z₀ l = some ob) (hd : ∀ h : Heap, h.get? l = some ob → h.DictAt knd l kvs ep) (hr : VsRel X.prog X.w Z₀ its (kvs.map (·.2))) :
    Iter X target Z₀ I its (fun i h => h.IsValIter I l i kvs.length ep ∧ h.get? l = some ob) where
  frame := fun i h h' st k => ⟨by obtain ⟨o, ho, q⟩ := st.1; exact ⟨o, k I o (.inl rfl) ho, q⟩, k l _ (.inr hl) st.2⟩
  item := fun i s Z Q hi st hle hz hI k => by
    have hne := getKeep hle hz hl hI
    have hlen : kvs.length = its.length := by rw [← hr.length]; simp
    have hi' : i < kvs.length := by omega
    refine wpAny_pyNext_values_item st.1 (hd _ st.2) (k := kvs[i].1) (v := kvs[i].2) (by simp [hi']) fun h' hit' hs' => ?_
    refine ⟨_, rfl, ?_⟩
    obtain ⟨o, ho, hc, hdd⟩ := id hit'
    refine go_other ho (fun n e => by rw [hc] at e; cases e; decide) ?_
    obtain ⟨v, hv, hrv⟩ := hr.get (i := i) (d := its[i]) (by simp [hi])
    have hv' : kvs[i].2 = v := by simpa [hi'] using hv
    exact k _ h' s.toks Z its[i] (by simp [hi]) (hv' ▸ hrv.mono hle) (fun _ _ h => h) (fun a o' e => (hs'.2 a (fun h => by rw [h, hI] at e; cases e)).trans (hz a o' e)) (fun a o' e => .inl e) ⟨hit', (hs'.2 l hne).trans st.2⟩ (fun a o' hb e => (hs'.2 a hb).trans e) ⟨o, ho⟩
  done := fun s Q st k => by
    have hlen : kvs.length = its.length := by rw [← hr.length]; simp
    refine wpAny_pyNext_values_end hA st.1 (hd _ st.2) (by simp [hlen]) fun h' he' => ?_
    exact ⟨rfl, k h' s.toks fun a o hb e => he' a o hb e⟩
theorem Iter.ofItems {Z₀ : ZM} {I l : Addr} {kvs : List (K × Value)} {ep : Nat} {ob : Obj} {its : List V} {ks : List K} {f : K → V} {elts kd pos} (hf : ∀ k v Z, knd.is k v = true → VRel X.prog X.w Z (f k) v) (hA : X.A.handled = none) (hl : Z₀ l = some ob) (hd : ∀ h : Heap, h.get? l = some ob → h.DictAt knd l kvs ep) (hr : VsRel X.prog X.w Z₀ its (kvs.map (·.2))) (hk : kvs.map (·.1) = ks) :
    Iter X (.Tuple elts kd pos) Z₀ I ((ks.zip its).map fun p => V.tup [f p.1, p.2]) (fun i h => (∃ ok ov, IsItemIter h I l i kvs.length ep ok ov) ∧ h.get? l = some ob) where
  frame := fun i h h' st k => ⟨by obtain ⟨ok, ov, e⟩ := st.1; exact ⟨ok, ov, k I _ (.inl rfl) e⟩, k l _ (.inr hl) st.2⟩
  item := fun i s Z Q hi st hle hz hI k => by
    have hne := getKeep hle hz hl hI
    obtain ⟨⟨ok, ov, hit⟩, hlo⟩ := st
    have hlen : kvs.length = its.length := by rw [← hr.length]; simp
    have hkl : ks.length = kvs.length := by rw [← hk]; simp
    have hi' : i < kvs.length := by simp at hi; omega
    refine wpAny_pyNext_items_item hit (hd _ hlo) (k := kvs[i].1) (v := kvs[i].2) (by simp [hi']) fun key h' hkey hout htup hsz hs' => ?_
    refine ⟨_, rfl, ?_⟩
    refine wpAny_letOwnedTupleGo_items hout fun h'' hit'' hs'' => ?_
    obtain ⟨v, hv, hrv⟩ := hr.get (i := i) (d := its[i]'(by omega)) (by simp [← hlen, hi'])
    have hv' : kvs[i].2 = v := by simpa [hi'] using hv
    have nz : Z s.heap.objs.size = none := by
      cases e : Z s.heap.objs.size with
      | none => rfl
      | some o => exact absurd (Heap.lt_size (hz _ _ e)) (Nat.lt_irrefl _)
    have nI : s.heap.objs.size ≠ I := Nat.ne_of_gt (Heap.lt_size hit)
    have le : Z.le (Zput Z s.heap.objs.size { cls := .type "tuple", data := .seq #[key, kvs[i].2] }) := Zput.le fun o e => by rw [nz] at e; cases e
    refine k _ h'' s.toks (Zput Z s.heap.objs.size { cls := .type "tuple", data := .seq #[key, kvs[i].2] }) (.tup [f kvs[i].1, its[i]'(by omega)]) ?_ ?_ le (fun a o e => ?_) (fun a o e => ?_) ⟨⟨_, _, hit''⟩, (hs''.2 l hne).trans (hs' l _ hne hlo)⟩ (fun a o hb e => (hs''.2 a hb).trans (hs' a o hb e)) ⟨_, hit''⟩
    · have : ks[i]? = some kvs[i].1 := by rw [← hk]; simp [hi']
      have hi2 : i < ks.length := by omega
      have hi3 : i < its.length := by omega
      have e2 : ks[i] = kvs[i].1 := by simpa [hi2] using this
      rw [List.getElem?_map, List.getElem?_eq_getElem (by rw [List.length_zip]; omega)]
      simp [e2]
    · refine vr_tup Zput.self ?_
      exact ⟨key, [kvs[i].2], rfl, hf _ _ _ hkey, kvs[i].2, [], rfl, by rw [hv'] at le ⊢; exact (hrv.mono hle).mono le, rfl⟩
    · unfold Zput at e
      split at e
      · subst_vars; cases e; exact (hs''.2 _ nI).trans htup
      · have ha : a ≠ I := fun h => by rw [h, hI] at e; cases e
        exact (hs''.2 a ha).trans (hs' a o ha (hz _ _ e))
    · unfold Zput at e
      split at e
      · subst_vars; exact .inr (Heap.get?_none_of_le (Nat.le_refl _))
      · exact .inl e
  done := fun s Q st k => by
    obtain ⟨⟨ok, ov, hit⟩, hlo⟩ := st
    have hlen : kvs.length = its.length := by rw [← hr.length]; simp
    have hkl : ks.length = kvs.length := by rw [← hk]; simp
    have e : ((ks.zip its).map fun p => V.tup [f p.1, p.2]).length = kvs.length := by simp; omega
    rw [e] at hit
    refine wpAny_pyNext_items_end hA hit (hd _ hlo) (by simp) fun h' he' => ?_
    exact ⟨rfl, k h' s.toks fun a o hb e => he' a o hb e⟩
end

/-! what is iterated over -/
theorem ITER.list {l : List V} (hA : X.A.handled = none) : ITER X target σ (.list l) l := fun Z s v Q r hv k => by
  obtain ⟨a, its, n, rfl, ha, hr⟩ := hv
  have ho := r.zin _ _ ha
  have ne : a ≠ s.heap.objs.size := Nat.ne_of_lt (Heap.lt_size ho)
  refine wpAny_pyIter_list ⟨_, ho, rfl, n, rfl⟩ (k _ _ rfl (Iter.ofList hA ha hr) ⟨⟨_, Heap.get?_push_size _ rfl, rfl, rfl⟩, Heap.get?_push_of_some _ ho⟩)
theorem fits_of {a : Int} (h : -(2 ^ 62) ≤ a ∧ a ≤ 2 ^ 62) : Builtin.Range.rangeFitsLong a = true := by
  unfold Builtin.Range.rangeFitsLong
  simp only [Bool.and_eq_true, decide_eq_true_eq]
  omega
theorem size_one (a b : Int) : Builtin.Range.rangeSize a b 1 = ((b - a).toNat : Int) := by
  unfold Builtin.Range.rangeSize
  simp only [show (1 : Int) > 0 by decide, if_true]
  split
  · rw [Int.ediv_one]; omega
  · omega
theorem small_of {a b : Int} (ha : -(2 ^ 60) ≤ a ∧ a ≤ 2 ^ 60) (hb : -(2 ^ 60) ≤ b ∧ b ≤ 2 ^ 60) : Builtin.Range.small a b 1 = true := by
  unfold Builtin.Range.small
  rw [size_one, fits_of (by omega), fits_of (by omega), fits_of (a := 1) (by omega), fits_of (by omega)]
  simp only [Bool.true_and, Bool.or_eq_true, show (1 : Int) > 0 by decide, if_true]
  exact .inr (fits_of (by omega))
theorem ITER.rng {a b : Int} (hA : X.A.handled = none) (hs : Builtin.Range.small a b 1 = true) : ITER X target σ (.rng a b) (rangeV a b) := fun Z s v Q r hv k => by
  obtain ⟨p, t, u, x, rfl, ha⟩ := hv
  have ho := r.zin _ _ ha
  refine wpAny_pyIter_range ho hs (k _ _ rfl (Iter.ofRange hA) ?_)
  have e1 : a + ((0 : Nat) : Int) = a := by omega
  have e2 : ((b - a).toNat : Int) - ((0 : Nat) : Int) = ((b - a).toNat : Int) := by omega
  rw [size_one, e1, e2]
  exact Heap.get?_push_size _ rfl
theorem intKey {k : Int} {v : Value} {Z : ZM} (h : (intKind X.prog X.w).is k v = true) : VRel X.prog X.w Z (.int k) v := Value.isInt_shape h
theorem ZDict.open {K : Type} [DecidableEq K] {knd : KeyKind X.prog X.w K} {a : Addr} {kvs : List (K × Value)} (h : ZDict knd Z a kvs) : ∃ ob ep, Z a = some ob ∧ ∀ h : Heap, h.get? a = some ob → h.DictAt knd a kvs ep :=
  let ⟨o, es, ep, e, q⟩ := h; ⟨o, ep, e, fun h' e' => ⟨o, es, e', q⟩⟩
theorem zip_keys {α β : Type} {ks : List α} {vs : List β} (h : ks.length = vs.length) : (ks.zip vs).map (·.1) = ks := List.map_fst_zip (Nat.le_of_eq h)
theorem zip_vals {α β : Type} {ks : List α} {vs : List β} (h : ks.length = vs.length) : (ks.zip vs).map (·.2) = vs := List.map_snd_zip (Nat.le_of_eq h.symm)
theorem no_sys {a : Addr} (h : 3 < a) : (a == sysModules) = false := by
  cases h' : a == sysModules with
  | false => rfl
  | true => rw [beq_iff_eq] at h'; subst h'; exact absurd h (by decide)
theorem ITER.ivals {ks : List Int} {l : List V} (hA : X.A.handled = none) : ITER X target σ (.view false (.idict ks l)) l := fun Z s v Q r hv k => by
  obtain ⟨p, da, rfl, hp, a, vs, e, lo, hz, hl, hr⟩ := hv
  cases e
  obtain ⟨ob, ep, he, hd⟩ := hz.open
  have ho := r.zin _ _ he
  refine wpAny_pyIter_values ⟨_, r.zin _ _ hp, rfl, rfl⟩ (hd _ ho) (k _ (fun i h => h.IsValIter s.heap.objs.size da i (ks.zip vs).length ep ∧ h.get? da = some ob) rfl (Iter.ofVals hA he hd (by rw [zip_vals hl]; exact hr)) ⟨⟨_, Heap.get?_push_size _ rfl, rfl, rfl⟩, Heap.get?_push_of_some _ ho⟩)
theorem ITER.iitems {ks : List Int} {l : List V} {elts kd pos} (hA : X.A.handled = none) : ITER X (.Tuple elts kd pos) σ (.view true (.idict ks l)) ((ks.zip l).map fun p => V.tup [.int p.1, p.2]) := fun Z s v Q r hv k => by
  obtain ⟨p, da, rfl, hp, a, vs, e, lo, hz, hl, hr⟩ := hv
  cases e
  obtain ⟨ob, ep, he, hd⟩ := hz.open
  have ho := r.zin _ _ he
  refine wpAny_pyIter_items ⟨_, r.zin _ _ hp, rfl, rfl⟩ (hd _ ho) (k _ (fun i h => (∃ ok ov, IsItemIter h s.heap.objs.size da i (ks.zip vs).length ep ok ov) ∧ h.get? da = some ob) rfl (Iter.ofItems (f := V.int) (fun k v Z h => intKey h) hA he hd (by rw [zip_vals hl]; exact hr) (zip_keys hl)) ⟨⟨_, _, Heap.get?_push_size _ rfl⟩, Heap.get?_push_of_some _ ho⟩)

/-! the loop -/
theorem Ext.butI {σ₀ : St} {Z₀ : ZM} {s₀ : Shared} (r₀ : Rel X σ₀ Z₀ s₀) (x : Ext X σ₀ Z₀ s₀ σ Z s) {I : Addr} {h' : Heap} {tk : Nat} {Z' : ZM} (h0 : s₀.heap.get? I = none) (hI : I ∉ foot X σ)
    (hk : ∀ a o, a ≠ I → s.heap.get? a = some o → h'.get? a = some o) (hle : Z.le Z') (hz : ∀ a o, Z' a = some o → h'.get? a = some o) (hzn : ∀ a o, Z' a = some o → Z a = some o ∨ s.heap.get? a = none) :
    Ext X σ₀ Z₀ s₀ σ Z' { s with heap := h', toks := tk } := by
  have r := x.rel
  have nb : X.base.get? I = none := by
    cases e : X.base.get? I with
    | none => rfl
    | some o => obtain ⟨o2, h2⟩ := r₀.old.there _ _ e; rw [h0] at h2; cases h2
  have nf : ∀ a ∈ foot X σ, a ≠ I := fun a ha h => hI (h ▸ ha)
  have kb : ∀ b o o', X.base.get? b = some o → s.heap.get? b = some o' → h'.get? b = some o' := fun b o o' e e' => hk _ _ (fun h => by rw [h, nb] at e; cases e) e'
  have inL : X.env.locals ∈ foot X σ := List.mem_cons_self
  have inC : ∀ c ∈ X.own, c ∈ foot X σ := fun c hc => List.mem_cons_of_mem _ (List.mem_append_left _ hc)
  refine ⟨⟨r.fr, hz, fun a o e ht => hle _ _ (r.st a o e ht), fun a ha => ?_, ?_, r.os, r.gens, ?_, ?_, ?_, (fun c hc => let ⟨uo, o, ho, hd⟩ := r.ownc c hc; ⟨uo, o, hk _ _ (nf _ (inC _ hc)) ho, hd⟩), ?_, r.nd, fun a ha => ?_, r.bfoot, fun a ha => ?_, (let ⟨o3, h3⟩ := r.g3; ⟨o3, hle _ _ h3⟩), r.low⟩, fun a o e => hle _ _ (x.le a o e), fun a o e hf ht => hk _ _ (fun h => by rw [h, h0] at e; cases e) (x.keep a o e hf ht), x.new, fun a o e => ?_⟩
  · cases e : Z' a with
    | none => rfl
    | some o =>
      rcases hzn a o e with h | h
      · rw [r.ztab a ha] at h; cases h
      · obtain ⟨ob, _, hb, _⟩ := ha
        obtain ⟨o2, h2⟩ := r.old.there _ _ hb
        rw [h] at h2; cases h2
  · refine ⟨fun b o e => ?_, fun b o e => let ⟨o', ho'⟩ := r.old.there b o e; ⟨o', kb b o o' e ho'⟩⟩
    rcases r.old.old b o e with y | ⟨t, hc, vs, more, hv, y⟩ | ⟨rfl, hc, ⟨o', es, n, ho', r'⟩, z⟩
    · exact .inl (kb _ _ _ e y)
    · exact .inr (.inl ⟨t, hc, vs, more, hv, kb _ _ _ e y⟩)
    · refine .inr (.inr ⟨rfl, hc, ⟨o', es, n, kb _ _ _ e ho', r'⟩, fun key => ?_⟩)
      rw [OldK.staticOf_congr ((kb _ _ _ e ho').trans ho'.symm) key]; exact z key
  · obtain ⟨m, hn, hm⟩ := r.ns
    exact ⟨m, hn.at' fun o e => hk _ _ (nf _ inL) e, fun y ov h => (hm y ov h).mono hle⟩
  · intro y ov hy
    obtain ⟨c, uo, hw, hc, ⟨o, ho, hd⟩, hr⟩ := r.cells y ov hy
    exact ⟨c, uo, hw, hc, ⟨o, hk _ _ (nf _ (inC _ hw)) ho, hd⟩, hr.mono hle⟩
  · intro y d hy
    obtain ⟨c, o, v, hc, hz', hd, hr⟩ := r.cap y d hy
    exact ⟨c, o, v, hc, hle _ _ hz', hd, hr.mono hle⟩
  · intro p hp
    exact (r.mem p hp).mono hle fun o e => hk _ _ (nf _ (r.nonempty hp)) e
  · cases e : Z' a with
    | none => rfl
    | some o =>
      rcases hzn a o e with h | h
      · rw [r.zfoot a ha] at h; cases h
      · obtain ⟨o2, h2⟩ := r.ex a ha; rw [h] at h2; cases h2
  · obtain ⟨o, ho⟩ := r.ex a ha; exact ⟨o, hk _ _ (nf _ ha) ho⟩
  · rcases hzn a o e with h | h
    · exact x.znew a o h
    · exact .inr (x.gone h)

/-- what the iterable of a loop hands over -/
inductive FORB (X : Cx) (target : PySem.Expr) (body : List Stmt) (Q : Fl → St → Prop) (d : V) (σ1 : St) : Prop
  | mk (its : List V) (hit : ITER X target σ1 d its) (Inv : Nat → St → Prop) (inv0 : Inv 0 σ1)
    (turn : ∀ i di σ2, its[i]? = some di → Inv i σ2 → AS X target di σ2 fun σ3 => EXK X body σ3 (Inv (i + 1)) Q)
    (fin : ∀ σ2, Inv its.length σ2 → Q .next σ2)
theorem Ext.outZ (x : Ext X σ Z s σ' Z' s') {I : Addr} (f : I ∉ foot X σ) (z : Z I = none) {o : Obj} (ho : s.heap.get? I = some o) : Z' I = none := by
  cases e : Z' I with
  | none => rfl
  | some o2 =>
    rcases x.znew _ _ e with h | h | h
    · rw [z] at h; cases h
    · exact absurd (List.mem_cons_of_mem _ (List.mem_append_right _ h)) f
    · rw [ho] at h; cases h
theorem Ext.outF (x : Ext X σ Z s σ' Z' s') {I : Addr} (f : I ∉ foot X σ) {o : Obj} (ho : s.heap.get? I = some o) : I ∉ foot X σ' := fun hm => by
  rcases x.footNew hm with h | h
  · exact f h
  · rw [ho] at h; cases h
theorem Rel.freshTb (r : Rel X σ Z s) : ¬ Tb X s.heap.objs.size := fun hh0 => by
  obtain ⟨ob, _, hb, _⟩ := hh0
  obtain ⟨o2, h2⟩ := r.old.there _ _ hb
  rw [Heap.get?_none_of_le (Nat.le_refl _)] at h2; cases h2
inductive ForJ (X : Cx) (σ1 : St) (Z1 : ZM) (s1 : Shared) (n : Nat) (Inv : Nat → St → Prop) (S : Nat → Heap → Prop) (k : Nat) (s' : Shared) : Prop
  | mk (i : Nat) (σ' : St) (Z' : ZM) (hk : k = n - i) (hi : i ≤ n) (x : Ext X σ1 Z1 s1 σ' Z' s') (inv : Inv i σ') (st : S i s'.heap) (zI : Z' s1.heap.objs.size = none) (fI : s1.heap.objs.size ∉ foot X σ') (o : Obj) (ho : s'.heap.get? s1.heap.objs.size = some o)
inductive ForK (X : Cx) (σ1 : St) (Z1 : ZM) (s1 : Shared) (its : List V) (S : Nat → Heap → Prop) (i : Nat) (σ' : St) (v : Value) (s2 : Shared) : Prop
  | mk (Z2 : ZM) (d : V) (hd : its[i]? = some d) (hv : VRel X.prog X.w Z2 d v) (x : Ext X σ1 Z1 s1 σ' Z2 s2) (st : S (i + 1) s2.heap) (zI : Z2 s1.heap.objs.size = none) (o : Obj) (ho : s2.heap.get? s1.heap.objs.size = some o)
theorem ForK.next {σ1 : St} {Z1 Z2 Z5 : ZM} {s1 s3 s5 : Shared} {σ5 : St} {its : List V} {Inv : Nat → St → Prop} {S : Nat → Heap → Prop} {i : Nat} {o : Obj} (it : Iter X target Z1 s1.heap.objs.size its S) (r1 : Rel X σ1 Z1 s1) (fI : s1.heap.objs.size ∉ foot X σ') (hlt : i < its.length)
    (x2 : Ext X σ1 Z1 s1 σ' Z2 s3) (st : S (i + 1) s3.heap) (zI : Z2 s1.heap.objs.size = none) (ho : s3.heap.get? s1.heap.objs.size = some o) (x5 : Ext X σ' Z2 s3 σ5 Z5 s5) (h : Inv (i + 1) σ5) : ∃ m, m < its.length - i ∧ ForJ X σ1 Z1 s1 its.length Inv S m s5 := by
  have hoI5 := x5.keep _ _ ho fI r1.freshTb
  refine ⟨its.length - (i + 1), Nat.sub_lt_sub_left hlt (Nat.lt_succ_self i), i + 1, σ5, Z5, rfl, hlt, x2.trans x5, h, it.frame _ _ _ st fun a o' ha e => ?_, x5.outZ fI zI ho, x5.outF fI ho, o, hoI5⟩
  rcases ha with rfl | ha
  · exact x5.keep _ _ e fI r1.freshTb
  · exact x5.rel.zin _ _ (x5.le _ _ (x2.le _ _ ha))
theorem ForK.item {σ1 : St} {Z1 : ZM} {s1 : Shared} {its : List V} {S : Nat → Heap → Prop} {i : Nat} {o : Obj} (it : Iter X target Z1 s1.heap.objs.size its S) (r1 : Rel X σ1 Z1 s1) (fI : s1.heap.objs.size ∉ foot X σ') (hlt : i < its.length)
    (x : Ext X σ1 Z1 s1 σ' Z' s') (st : S i s'.heap) (zI : Z' s1.heap.objs.size = none) (ho : s'.heap.get? s1.heap.objs.size = some o) :
    wpAny (model X.prog X.w) X.A (pyNext (.ref s1.heap.objs.size)) (fun r s₁ => ∃ v, r = some v ∧ wpAny (model X.prog X.w) X.A (letOwnedTupleGo target (.ref s1.heap.objs.size) v) (fun _ s₂ => ForK X σ1 Z1 s1 its S i σ' v s₂) Nope s₁) Nope s' :=
  it.item i s' Z' _ hlt st x.le x.rel.zin zI fun v h' tk Z2 d' hd' hv hle hz hzn st' hk hex => by
    obtain ⟨o2, ho2⟩ := hex
    refine ⟨Z2, d', hd', hv, Ext.butI r1 x (Heap.get?_none_of_le (Nat.le_refl _)) fI hk hle hz hzn, st', ?_, o2, ho2⟩
    cases e : Z2 s1.heap.objs.size with
    | none => rfl
    | some o2 =>
      rcases hzn _ _ e with h | h
      · rw [zI] at h; cases h
      · rw [ho] at h; cases h
/-- where the body of a loop may end -/
noncomputable def FlowTo (R : Result → Shared → Prop) (J : Nat → Shared → Prop) (n : Nat) (f : Flow) (s : Shared) : Prop := match f with
  | .next | .cont => ∃ m, m < n ∧ J m s
  | .brk => R (.ok .next) s
  | .ret v => R (.ok (.ret v)) s
theorem forLoopN {prog : Program} {w : World} {A : Around} {R : Result → Shared → Prop} {target : PySem.Expr} {it : Value} {body : List Stmt} {env : Env} (J : Nat → Shared → Prop)
    (turn : ∀ n s, J n s → wpAny (model prog w) A (pyNext it) (fun r s₁ => match r with
      | none => R (.ok .next) s₁
      | some v => wpAny (model prog w) A (letOwnedTupleGo target it v) (fun _ s₁' => wpAny (model prog w) A (assign target env v) (fun _ s₂ => wpAny (model prog w) A (execs body env) (FlowTo R J n) Nope s₂) Nope s₁') Nope s₁) Nope s)
    (n : Nat) (h : J n s) : codeAny (model prog w) A (.forLoop target it body [] env) R s := by
  refine codeAny_forLoop_any J (fun n s hj => wpAny_mono (turn n s hj) (fun r s₁ q => ?_) fun _ _ h => h.elim) n h
  cases r with
  | none => exact wpAny_execs_nil q
  | some v =>
    refine wpAny_mono q (fun _ s₂ q => wpAny_mono q (fun _ s₃ q => wpAny_mono q (fun f s₄ q => ?_) fun _ _ h => h.elim) fun _ _ h => h.elim) fun _ _ h => h.elim
    cases f <;> exact q
theorem Post.flow {J : Nat → Shared → Prop} {n : Nat} {I : St → Prop} {Q K : Fl → St → Prop} {R : Result → Shared → Prop} {Y : Cx} {f : Flow} (hq : ∀ {f' : Fl} {f : Flow}, RFl X Z' f' f → Q f' σ' → R (.ok f) s') {f' : Fl} (hf : RFl X Z' f' f)
    (hi : I σ' → ∃ m, m < n ∧ J m s') (h : match (generalizing := false) f' with | .next | .cont => I σ' | .brk => Q .next σ' | .ret v => Q (.ret v) σ') : FlowTo R J n f s' := by
  cases f' with
  | next => cases hf; exact hi h
  | cont => cases hf; exact hi h
  | brk => cases hf; exact hq rfl_next h
  | ret d => obtain ⟨v', rfl, hv'⟩ := hf; exact hq (rfl_ret hv') h
/-- for target in ..: by what holds of the state when i items are taken -/
theorem ES.for {iter body pos} {Q : Fl → St → Prop} (hA : X.A.handled = none)
    (h : EV X iter σ (FORB X target body Q))
    (hs : ∀ env x, foldedSetIterable iter env x = pure x := by intro _ _; rfl) : ES X (.For target iter body [] pos) σ Q := fun Z s r => by
  refine wpAny_For (J.use h r fun Z1 s1 σ1 d v x1 r1 h1 => ?_) (hs _)
  obtain ⟨its, hit, Inv, inv0, turn, fin⟩ := h1
  refine hit Z1 s1 v _ x1.rel r1 fun o St hof it st0 => ?_
  refine forLoopN (ForJ X σ1 Z1 s1 its.length Inv St) ?_ its.length ?_
  · intro n s' hj
    obtain ⟨i, σ', Z', rfl, hi, x, inv, st, zI, fI, oI, hoI⟩ := hj
    by_cases hlt : i < its.length
    · refine wpAny_mono (ForK.item it x1.rel fI hlt x st zI hoI) (fun res s2 h2 => ?_) fun _ _ h => h.elim
      obtain ⟨v, rfl, h2⟩ := h2
      refine wpAny_mono h2 (fun _ s3 h3 => ?_) fun _ _ h => h.elim
      obtain ⟨Z2, d', hd', hv, x2, st2, zI2, oI2, hoI2⟩ := h3
      refine wpAny_mono (turn i d' σ' hd' inv Z2 s3 v x2.rel hv) (fun _ s4 q => ?_) fun _ _ h => h.elim
      obtain ⟨Z4, σ4, _, x4, _, h4⟩ := q
      refine wpAny_mono (h4.use Z4 s4 x4.rel) (fun f s5 q => ?_) fun _ _ h => h.elim
      obtain ⟨Z5, σ5, f', x5, hf, h5⟩ := q
      exact Post.flow (Y := X) (K := Q) (fun hf h => here (x1.trans (x2.trans (x4.trans x5))) hf h) hf (fun h => ForK.next it x1.rel fI hlt x2 st2 zI2 hoI2 (x4.trans x5) h) h5
    · obtain rfl : i = its.length := Nat.le_antisymm hi (Nat.le_of_not_lt hlt)
      refine wpAny_mono (it.done s' (fun s2 => Ext X σ1 Z1 s1 σ' Z' s2) st fun h' tk hk => ?_) (fun res s2 h2 => ?_) fun _ _ h => h.elim
      · exact Ext.butI x1.rel x (Heap.get?_none_of_le (Nat.le_refl _)) fI hk (fun _ _ h => h) (fun a o' e => hk _ _ (fun h => by rw [h, zI] at e; cases e) (x.rel.zin _ _ e)) fun _ _ h => .inl h
      · obtain ⟨rfl, x2⟩ := h2
        exact here (x1.trans x2) rfl_next (fin _ inv)
  · refine ⟨0, σ1, Z1, rfl, Nat.zero_le _, (Ext.refl x1.rel).push o, inv0, st0, ?_, fun hm => absurd (x1.rel.lt _ hm) (Nat.lt_irrefl _), o, Heap.get?_push_size _ hof⟩
    cases e : Z1 s1.heap.objs.size with
    | none => rfl
    | some o2 => have h := x1.rel.zin _ _ e; rw [Heap.get?_none_of_le (Nat.le_refl _)] at h; cases h
end
end Mine
end
section
open PySem PySem.Spec PySem.Calls PyProof.Rows PySem.W
namespace Mine
section
variable {X : Cx} {σ σ' σ'' : St} {Z Z' Z'' : ZM} {s s' s'' : Shared}

/-- as Ext, but the object at I may have changed -/
structure ExtI (X : Cx) (I : Addr) (σ : St) (Z : ZM) (s : Shared) (σ' : St) (Z' : ZM) (s' : Shared) : Prop where
  rel : Rel X σ' Z' s'
  le : Z.le Z'
  keep : ∀ a o, s.heap.get? a = some o → a ∉ foot X σ → ¬ Tb X a → a ≠ I → s'.heap.get? a = some o
  new : ∀ a ∈ keys σ'.mem, a ∈ keys σ.mem ∨ s.heap.get? a = none
  znew : ∀ a o, Z' a = some o → Z a = some o ∨ a ∈ keys σ.mem ∨ s.heap.get? a = none
  there : ∃ o, s'.heap.get? I = some o
  out : I ∉ foot X σ'
  zI : Z' I = none

theorem ExtI.refl {I : Addr} (r : Rel X σ Z s) (h : ∃ o, s.heap.get? I = some o) (hf : I ∉ foot X σ) (hz : Z I = none) : ExtI X I σ Z s σ Z s :=
  ⟨r, fun _ _ h => h, fun _ _ e _ _ _ => e, fun _ h => .inl h, fun _ _ h => .inl h, h, hf, hz⟩

theorem ExtI.gone {I : Addr} (x : ExtI X I σ Z s σ' Z' s') {a : Addr} (h : s'.heap.get? a = none) : a ∈ keys σ.mem ∨ s.heap.get? a = none := by
  cases e : s.heap.get? a with
  | none => exact .inr rfl
  | some o =>
    by_cases ht : Tb X a
    · obtain ⟨ob, _, hb, _⟩ := ht
      obtain ⟨o2, h2⟩ := x.rel.old.there _ _ hb
      rw [h] at h2; cases h2
    · by_cases hf : a ∈ foot X σ
      · unfold foot at hf
        have ex := x.rel.ex
        unfold foot at ex
        rcases List.mem_cons.mp hf with rfl | hf
        · obtain ⟨o2, h2⟩ := ex _ List.mem_cons_self; rw [h] at h2; cases h2
        · rcases List.mem_append.mp hf with hf | hf
          · obtain ⟨o2, h2⟩ := ex _ (List.mem_cons_of_mem _ (List.mem_append_left _ hf)); rw [h] at h2; cases h2
          · exact .inl hf
      · by_cases hI : a = I
        · obtain ⟨o2, h2⟩ := x.there; rw [← hI, h] at h2; cases h2
        · rw [x.keep a o e hf ht hI] at h; cases h

theorem ExtI.step {I : Addr} (hb : X.base.get? I = none) (x : ExtI X I σ Z s σ' Z' s') (y : Ext X σ' Z' s' σ'' Z'' s'') : ExtI X I σ Z s σ'' Z'' s'' := by
  have nTb : ¬ Tb X I := fun hh0 => by obtain ⟨ob, _, h, _⟩ := hh0; rw [hb] at h; cases h
  obtain ⟨oI, hoI⟩ := x.there
  have fn : ∀ a ∈ foot X σ'', a ∈ foot X σ ∨ s.heap.get? a = none := fun a ha => by
    rcases y.footNew ha with h | h
    · unfold foot at h ⊢
      rcases List.mem_cons.mp h with rfl | h
      · exact .inl List.mem_cons_self
      · rcases List.mem_append.mp h with h | h
        · exact .inl (List.mem_cons_of_mem _ (List.mem_append_left _ h))
        · rcases x.new a h with h | h
          · exact .inl (List.mem_cons_of_mem _ (List.mem_append_right _ h))
          · exact .inr h
    · rcases x.gone h with h | h
      · exact .inl (by unfold foot; exact List.mem_cons_of_mem _ (List.mem_append_right _ h))
      · exact .inr h
  have fn' : ∀ a ∈ foot X σ', a ∈ foot X σ ∨ s.heap.get? a = none := fun a h => by
    unfold foot at h ⊢
    rcases List.mem_cons.mp h with rfl | h
    · exact .inl List.mem_cons_self
    · rcases List.mem_append.mp h with h | h
      · exact .inl (List.mem_cons_of_mem _ (List.mem_append_left _ h))
      · rcases x.new a h with h | h
        · exact .inl (List.mem_cons_of_mem _ (List.mem_append_right _ h))
        · exact .inr h
  refine ⟨y.rel, fun a o h => y.le a o (x.le a o h), fun a o e hf ht hI => y.keep a o (x.keep a o e hf ht hI) (fun hm => ?_) ht, fun a hk => ?_, fun a o hz => ?_, ⟨oI, y.keep _ _ hoI x.out nTb⟩, fun hm => ?_, ?_⟩
  · rcases fn' a hm with h | h
    · exact hf h
    · rw [h] at e; cases e
  · rcases y.new a hk with h | h
    · exact x.new a h
    · exact x.gone h
  · rcases y.znew a o hz with h | h | h
    · exact x.znew a o h
    · exact .inr (x.new a h)
    · exact .inr (x.gone h)
  · rcases y.footNew hm with h | h
    · exact x.out h
    · rw [hoI] at h; cases h
  · cases e : Z'' I with
    | none => rfl
    | some o2 =>
      rcases y.znew _ _ e with h | h | h
      · rw [x.zI] at h; cases h
      · exact absurd (by unfold foot; exact List.mem_cons_of_mem _ (List.mem_append_right _ h)) x.out
      · rw [hoI] at h; cases h

theorem ExtI.turn {I : Addr} (hb : X.base.get? I = none) (x : ExtI X I σ Z s σ' Z' s') {h' : Heap} {tk : Nat}
    (hk : ∀ a o, a ≠ I → s'.heap.get? a = some o → h'.get? a = some o) (hex : ∃ o, h'.get? I = some o) (hle : Z'.le Z'') (hz : ∀ a o, Z'' a = some o → h'.get? a = some o) (hzn : ∀ a o, Z'' a = some o → Z' a = some o ∨ s'.heap.get? a = none) :
    ExtI X I σ Z s σ' Z'' { s' with heap := h', toks := tk } := by
  -- seen from a state without I
  have r := x.rel
  have hI := x.out
  have nf : ∀ a ∈ foot X σ', a ≠ I := fun a ha h => hI (h ▸ ha)
  have kb : ∀ b o o', X.base.get? b = some o → s'.heap.get? b = some o' → h'.get? b = some o' := fun b o o' e e' => hk _ _ (fun h => by rw [h, hb] at e; cases e) e'
  have inL : X.env.locals ∈ foot X σ' := List.mem_cons_self
  have inC : ∀ c ∈ X.own, c ∈ foot X σ' := fun c hc => List.mem_cons_of_mem _ (List.mem_append_left _ hc)
  obtain ⟨oI, hoI⟩ := x.there
  refine ⟨⟨r.fr, hz, fun a o e ht => hle _ _ (r.st a o e ht), fun a ha => ?_, ?_, r.os, r.gens, ?_, ?_, ?_, (fun c hc => let ⟨uo, o, ho, hd⟩ := r.ownc c hc; ⟨uo, o, hk _ _ (nf _ (inC _ hc)) ho, hd⟩), ?_, r.nd, fun a ha => ?_, r.bfoot, fun a ha => ?_, (let ⟨o3, h3⟩ := r.g3; ⟨o3, hle _ _ h3⟩), r.low⟩, fun a o e => hle _ _ (x.le a o e), fun a o e hf ht hne => hk _ _ hne (x.keep a o e hf ht hne), x.new, fun a o e => ?_, hex, hI, ?_⟩
  · cases e : Z'' a with
    | none => rfl
    | some o =>
      rcases hzn a o e with h | h
      · rw [r.ztab a ha] at h; cases h
      · obtain ⟨ob, _, hb, _⟩ := ha
        obtain ⟨o2, h2⟩ := r.old.there _ _ hb
        rw [h] at h2; cases h2
  · refine ⟨fun b o e => ?_, fun b o e => let ⟨o', ho'⟩ := r.old.there b o e; ⟨o', kb b o o' e ho'⟩⟩
    rcases r.old.old b o e with y | ⟨t, hc, vs, more, hv, y⟩ | ⟨rfl, hc, ⟨o', es, n, ho', r'⟩, z⟩
    · exact .inl (kb _ _ _ e y)
    · exact .inr (.inl ⟨t, hc, vs, more, hv, kb _ _ _ e y⟩)
    · refine .inr (.inr ⟨rfl, hc, ⟨o', es, n, kb _ _ _ e ho', r'⟩, fun key => ?_⟩)
      rw [OldK.staticOf_congr ((kb _ _ _ e ho').trans ho'.symm) key]; exact z key
  · obtain ⟨m, hn, hm⟩ := r.ns
    exact ⟨m, hn.at' fun o e => hk _ _ (nf _ inL) e, fun y ov h => (hm y ov h).mono hle⟩
  · intro y ov hy
    obtain ⟨c, uo, hw, hc, ⟨o, ho, hd⟩, hr⟩ := r.cells y ov hy
    exact ⟨c, uo, hw, hc, ⟨o, hk _ _ (nf _ (inC _ hw)) ho, hd⟩, hr.mono hle⟩
  · intro y d hy
    obtain ⟨c, o, v, hc, hz', hd, hr⟩ := r.cap y d hy
    exact ⟨c, o, v, hc, hle _ _ hz', hd, hr.mono hle⟩
  · intro p hp
    exact (r.mem p hp).mono hle fun o e => hk _ _ (nf _ (r.nonempty hp)) e
  · cases e : Z'' a with
    | none => rfl
    | some o =>
      rcases hzn a o e with h | h
      · rw [r.zfoot a ha] at h; cases h
      · obtain ⟨o2, h2⟩ := r.ex a ha; rw [h] at h2; cases h2
  · obtain ⟨o, ho⟩ := r.ex a ha; exact ⟨o, hk _ _ (nf _ ha) ho⟩
  · rcases hzn a o e with h | h
    · exact x.znew a o h
    · exact .inr (x.gone h)
  · cases e : Z'' I with
    | none => rfl
    | some o2 =>
      rcases hzn _ _ e with h | h
      · rw [x.zI] at h; cases h
      · rw [hoI] at h; cases h

/-! a comprehension's turns -/
noncomputable def isComp : PySem.Expr → Bool
  | .ListComp .. => true
  | .DictComp .. => true
  | _ => false
noncomputable def emitOf (e : PySem.Expr) (acc : Value) (env : Env) : Sem Unit := match e with
  | .ListComp elt _ _ _ => do let _ ← call (.builtin "list.append") [acc, ← eval elt env]
  | .DictComp k v _ _ _ => do
    let kv ← eval k env
    let vv ← holding [kv] (eval v env)
    match acc with
    | .ref d => do
      standAt { k.pos with endLine := v.pos.endLine, endCol := v.pos.endCol }
      holding [kv, vv] (dictSet d kv vv)
    | _ => unsupported "internal:dictcomp"
  | _ => unsupported "internal:not-a-comprehension"
noncomputable def innerT (e : PySem.Expr) (k : Nat) (acc : Value) (env : Env) (K : Sem Fin) : Sem Fin := match (clausesOf e)[k + 1]? with
  | some g' => do
    let x ← eval g'.iter env
    standAt g'.iter.pos
    let x ← foldedSetIterable g'.iter env x
    let _ ← runOwn (.compStart e (k + 1) (← holding [x] (pyIter x)) acc env) env
    K
  | none => emitOf e acc env >>= fun _ => K
noncomputable def testsT (ifs : List PySem.Expr) (env : Env) : Sem Bool := forIn ifs true fun c r => if r = true then do let ok ← isTrue c env (eval c env); pure (ForInStep.yield ok) else pure (ForInStep.yield r)

theorem isComp_cases {e : PySem.Expr} (hc : isComp e = true) : (∃ elt gens scope pos, e = .ListComp elt gens scope pos) ∨ ∃ kx vx gens scope pos, e = .DictComp kx vx gens scope pos := by
  cases e with
  | ListComp a b c d => exact .inl ⟨a, b, c, d, rfl⟩
  | DictComp a b c d f => exact .inr ⟨a, b, c, d, f, rfl⟩
  | _ => exact Bool.noConfusion hc
/-- both kinds of comprehension, seen from their loops -/
structure CompK (e : PySem.Expr) (env : Env) : Prop where
  quiet : ∀ k i acc, (Code.compLoop e k i acc env).quiet = true
  loop : ∀ k i acc, ∃ f, denote table (.compLoop e k i acc env) = (compTurn e k i acc env).onRaise f
  start : ∀ k i acc, denote table (.compStart e k i acc env) = (compStart e k i acc env).onRaise (fun x => do noteFrame x env; standAt theWindowsPlace)
  wl : ∀ (A : Around) k i acc, A.under (.compLoop e k i acc env) = A
  ws : ∀ (A : Around) k i acc, A.under (.compStart e k i acc env) = A
theorem CompK.of {e : PySem.Expr} (hc : isComp e = true) (env : Env) : CompK e env := by
  rcases isComp_cases hc with ⟨a, b, c, d, rfl⟩ | ⟨a, b, c, d, f, rfl⟩
  · exact ⟨fun _ _ _ => rfl, fun _ _ _ => ⟨_, rfl⟩, fun _ _ _ => rfl, fun _ _ _ _ => Around.under_of_weight rfl, fun _ _ _ _ => Around.under_of_weight rfl⟩
  · exact ⟨fun _ _ _ => rfl, fun _ _ _ => ⟨_, rfl⟩, fun _ _ _ => rfl, fun _ _ _ _ => Around.under_of_weight rfl, fun _ _ _ _ => Around.under_of_weight rfl⟩
theorem compTurn_eq {e : PySem.Expr} (hc : isComp e = true) (has : ∀ g ∈ clausesOf e, g.is_async = 0) {k : Nat} {target iter : PySem.Expr} {ifs : List PySem.Expr} (hg : (clausesOf e)[k]? = some ⟨target, iter, ifs, 0⟩) (it acc : Value) (env : Env) :
    compTurn e k it acc env = (standAt iter.pos >>= fun _ => pyNext it >>= fun r => match r with
      | none => pure (.done .next)
      | some v => letOwnedTupleGo target it v >>= fun _ => assign target env v >>= fun _ => testsT ifs env >>= fun ok =>
        if ok = true then innerT e k acc env (again (.compLoop e k it acc env)) else again (.compLoop e k it acc env)) := by
  rcases isComp_cases hc with ⟨elt, gens, scope, pos, rfl⟩ | ⟨kx, vx, gens, scope, pos, rfl⟩
  · have hg' : gens[k]? = some ⟨target, iter, ifs, 0⟩ := hg
    unfold compTurn
    simp only [hg']
    unfold innerT
    cases hn : gens[k + 1]? with
    | none =>
      rw [show (clausesOf (PySem.Expr.ListComp elt gens scope pos))[k + 1]? = none from hn]
      simp only [bne_self_eq_false, Bool.false_eq_true, if_false]
      refine congrArg (Sem.bind _) (funext fun _ => congrArg (Sem.bind _) (funext fun r => ?_))
      cases r with
      | none => rfl
      | some v =>
        refine congrArg (Sem.bind _) (funext fun _ => congrArg (Sem.bind _) (funext fun _ => congrArg (Sem.bind _) (funext fun ok => ?_)))
        cases ok <;> rfl
    | some g' =>
      have ha : g'.is_async = 0 := has g' (List.mem_of_getElem? hn)
      rw [show (clausesOf (PySem.Expr.ListComp elt gens scope pos))[k + 1]? = some g' from hn]
      simp only [bne_self_eq_false, Bool.false_eq_true, if_false]
      refine congrArg (Sem.bind _) (funext fun _ => congrArg (Sem.bind _) (funext fun r => ?_))
      cases r with
      | none => rfl
      | some v =>
        refine congrArg (Sem.bind _) (funext fun _ => congrArg (Sem.bind _) (funext fun _ => congrArg (Sem.bind _) (funext fun ok => ?_)))
        cases ok
        · rfl
        · simp only [ha, bne_self_eq_false, Bool.false_eq_true, if_false, if_true]
  · have hg' : gens[k]? = some ⟨target, iter, ifs, 0⟩ := hg
    unfold compTurn
    simp only [hg']
    unfold innerT
    cases hn : gens[k + 1]? with
    | none =>
      rw [show (clausesOf (PySem.Expr.DictComp kx vx gens scope pos))[k + 1]? = none from hn]
      simp only [bne_self_eq_false, Bool.false_eq_true, if_false]
      refine congrArg (Sem.bind _) (funext fun _ => congrArg (Sem.bind _) (funext fun r => ?_))
      cases r with
      | none => rfl
      | some v =>
        refine congrArg (Sem.bind _) (funext fun _ => congrArg (Sem.bind _) (funext fun _ => congrArg (Sem.bind _) (funext fun ok => ?_)))
        cases ok <;> rfl
    | some g' =>
      have ha : g'.is_async = 0 := has g' (List.mem_of_getElem? hn)
      rw [show (clausesOf (PySem.Expr.DictComp kx vx gens scope pos))[k + 1]? = some g' from hn]
      simp only [bne_self_eq_false, Bool.false_eq_true, if_false]
      refine congrArg (Sem.bind _) (funext fun _ => congrArg (Sem.bind _) (funext fun r => ?_))
      cases r with
      | none => rfl
      | some v =>
        refine congrArg (Sem.bind _) (funext fun _ => congrArg (Sem.bind _) (funext fun _ => congrArg (Sem.bind _) (funext fun ok => ?_)))
        cases ok
        · rfl
        · simp only [ha, bne_self_eq_false, Bool.false_eq_true, if_false, if_true]

noncomputable def TS (X : Cx) (ifs : List PySem.Expr) (σ : St) (P : Bool → St → Prop) : Prop := J X (REq (α := Bool)) (testsT ifs X.env) σ P
theorem TS.nil {P : Bool → St → Prop} (h : P true σ) : TS X [] σ P := fun Z s r => by
  unfold testsT
  rw [List.forIn_nil]
  exact wpAny_pure (here (b := true) (Ext.refl r) rfl h)
theorem tests_false {M : Model} {A : Around} {E : Value → Shared → Prop} {env : Env} {Q : Bool → Shared → Prop} : ∀ {ifs : List PySem.Expr} {s : Shared}, Q false s → wpAny M A (forIn ifs false fun c r => if r = true then do let ok ← isTrue c env (eval c env); pure (ForInStep.yield ok) else pure (ForInStep.yield r)) Q E s
  | [], _, h => by rw [List.forIn_nil]; exact wpAny_pure h
  | _ :: _, _, h => by
    rw [List.forIn_cons]
    exact wpAny_bind (wpAny_pure (tests_false h))
theorem TS.cons {c cs} {P : Bool → St → Prop} (h : ET X c σ fun b σ1 => if b then TS X cs σ1 P else P false σ1) : TS X (c :: cs) σ P := fun Z s r => by
  unfold testsT
  rw [List.forIn_cons]
  refine wpAny_bind (wpAny_bind (J.use h r fun Z1 s1 σ1 b b' x1 r1 h1 => ?_))
  cases r1
  cases b with
  | true => exact wpAny_pure (J.after h1 x1)
  | false => exact wpAny_pure (tests_false (here (b := false) x1 rfl h1))

noncomputable def IN (X : Cx) (e : PySem.Expr) (k : Nat) (acc : Value) (σ : St) (Q : St → Prop) : Prop :=
  ∀ Z s (K : Sem Fin) (R : Fin → Shared → Prop), Rel X σ Z s → (∀ Z' σ' s', Ext X σ Z s σ' Z' s' → Q σ' → wpAny (model X.prog X.w) X.A K R Nope s') → wpAny (model X.prog X.w) X.A (innerT e k acc X.env K) R Nope s

inductive CLJ (X : Cx) (I : Addr) (σ : St) (Z : ZM) (s : Shared) (n : Nat) (Inv : Nat → St → Prop) (S : Nat → Heap → Prop) (k : Nat) (s' : Shared) : Prop
  | mk (i : Nat) (σ' : St) (Z' : ZM) (hk : k = n - i) (hi : i ≤ n) (x : ExtI X I σ Z s σ' Z' s') (inv : Inv i σ') (st : S i s'.heap)
inductive CLK (X : Cx) (I : Addr) (σ : St) (Z : ZM) (s : Shared) (its : List V) (S : Nat → Heap → Prop) (i : Nat) (σ' : St) (v : Value) (s2 : Shared) : Prop
  | mk (Z2 : ZM) (d : V) (hd : its[i]? = some d) (hv : VRel X.prog X.w Z2 d v) (x : ExtI X I σ Z s σ' Z2 s2) (st : S (i + 1) s2.heap)
theorem CLK.next {I : Addr} {its : List V} {S : Nat → Heap → Prop} {Z₀ Z2 Z6 : ZM} {s3 s6 : Shared} {σ6 : St} {Inv : Nat → St → Prop} {i : Nat} (it : Iter X target Z₀ I its S) (hle : Z₀.le Z) (hb : X.base.get? I = none) (hlt : i < its.length) (x2 : ExtI X I σ Z s σ' Z2 s3) (st2 : S (i + 1) s3.heap)
    (xx : Ext X σ' Z2 s3 σ6 Z6 s6) (h6 : Inv (i + 1) σ6) : ∃ m, m < its.length - i ∧ CLJ X I σ Z s its.length Inv S m s6 := by
  refine ⟨its.length - (i + 1), Nat.sub_lt_sub_left hlt (Nat.lt_succ_self i), i + 1, σ6, Z6, rfl, hlt, x2.step hb xx, h6, it.frame _ _ _ st2 fun a o' ha e => ?_⟩
  rcases ha with rfl | ha
  · exact xx.keep _ _ e x2.out fun hh0 => by obtain ⟨ob, _, h, _⟩ := hh0; rw [hb] at h; cases h
  · exact xx.rel.zin _ _ (xx.le _ _ (x2.le _ _ (hle _ _ ha)))
theorem CLK.core {e : PySem.Expr} (hc : isComp e = true) (has : ∀ g ∈ clausesOf e, g.is_async = 0) {k : Nat} {target iter : PySem.Expr} {ifs : List PySem.Expr} (hg : (clausesOf e)[k]? = some ⟨target, iter, ifs, 0⟩)
    {I : Addr} {its : List V} {S : Nat → Heap → Prop} {Z₀ : ZM} {acc : Value} (it : Iter X target Z₀ I its S) (hle : Z₀.le Z) (hb : X.base.get? I = none) (Inv : Nat → St → Prop)
    (turn : ∀ i d σ', its[i]? = some d → Inv i σ' → AS X target d σ' fun σ2 => TS X ifs σ2 fun ok σ3 => if ok then IN X e k acc σ3 (Inv (i + 1)) else Inv (i + 1) σ3)
    {R : Result → Shared → Prop} (fin : ∀ σ' Z' s' h' tk, ExtI X I σ Z s σ' Z' s' → (∀ a o, a ≠ I → s'.heap.get? a = some o → h'.get? a = some o) → Inv its.length σ' → R (.ok .next) { s' with heap := h', toks := tk })
    {n : Nat} (hj : CLJ X I σ Z s its.length Inv S n s') : wpAny (model X.prog X.w) X.A (compTurn e k (.ref I) acc X.env) (fun fin s'' => match fin with
      | .done f => R (.ok f) s''
      | .again c' => c' = .compLoop e k (.ref I) acc X.env ∧ ∃ m, m < n ∧ CLJ X I σ Z s its.length Inv S m s'') Nope s' := by
  obtain ⟨i, σ', Z', rfl, hi, x, inv, st⟩ := hj
  rw [compTurn_eq hc has hg]
  refine wpAny_bind (wpAny_standAt (wpAny_bind ?_))
  by_cases hlt : i < its.length
  · refine wpAny_mono (it.item i s' Z' (CLK X I σ Z s its S i σ') hlt st (fun a o h => x.le _ _ (hle _ _ h)) x.rel.zin x.zI fun v h' tk Z2 d' hd' hv hle' hz' hzn st' hk hex => ⟨Z2, d', hd', hv, x.turn hb hk hex hle' hz' hzn, st'⟩) (fun res s2 h2 => ?_) fun _ _ h => h.elim
    obtain ⟨v, rfl, h2⟩ := h2
    refine wpAny_bind (wpAny_mono h2 (fun _ s3 h3 => ?_) fun _ _ h => h.elim)
    obtain ⟨Z2, d', hd', hv, x2, st2⟩ := h3
    refine wpAny_bind (wpAny_mono (turn i d' σ' hd' inv Z2 s3 v x2.rel hv) (fun _ s4 q => ?_) fun _ _ h => h.elim)
    obtain ⟨Z4, σ4, _, x4, _, h4⟩ := q
    refine wpAny_bind (wpAny_mono (h4 Z4 s4 x4.rel) (fun ok s5 q => ?_) fun _ _ h => h.elim)
    obtain ⟨Z5, σ5, ok', x5, hok, h5⟩ := q
    cases hok
    cases ok with
    | false => exact wpAny_pure ⟨rfl, CLK.next it hle hb hlt x2 st2 (x4.trans x5) h5⟩
    | true =>
      refine h5 Z5 s5 _ _ x5.rel fun Z6 σ6 s6 x6 h6 => ?_
      exact wpAny_pure ⟨rfl, CLK.next it hle hb hlt x2 st2 ((x4.trans x5).trans x6) h6⟩
  · obtain rfl : i = its.length := Nat.le_antisymm hi (Nat.le_of_not_lt hlt)
    refine wpAny_mono (it.done s' (fun s2 => R (.ok .next) s2) st fun h' tk hk => fin _ _ _ _ _ x hk inv) (fun res s2 h2 => ?_) fun _ _ h => h.elim
    obtain ⟨rfl, h2⟩ := h2
    exact wpAny_pure h2
/-- one clause's loop from an iterator that stands -/
theorem comp_loop {e : PySem.Expr} (hc : isComp e = true) (has : ∀ g ∈ clausesOf e, g.is_async = 0) {k : Nat} {target iter : PySem.Expr} {ifs : List PySem.Expr} (hg : (clausesOf e)[k]? = some ⟨target, iter, ifs, 0⟩)
    {I : Addr} {its : List V} {S : Nat → Heap → Prop} {Z₀ : ZM} {acc : Value} (it : Iter X target Z₀ I its S) (hle : Z₀.le Z) (r : Rel X σ Z s) (hI : ∃ o, s.heap.get? I = some o) (hf : I ∉ foot X σ) (hz : Z I = none) (hb : X.base.get? I = none) (st : S 0 s.heap)
    (Inv : Nat → St → Prop) (inv0 : Inv 0 σ)
    (turn : ∀ i d σ', its[i]? = some d → Inv i σ' → AS X target d σ' fun σ2 => TS X ifs σ2 fun ok σ3 => if ok then IN X e k acc σ3 (Inv (i + 1)) else Inv (i + 1) σ3)
    {R : Result → Shared → Prop} (fin : ∀ σ' Z' s' h' tk, ExtI X I σ Z s σ' Z' s' → (∀ a o, a ≠ I → s'.heap.get? a = some o → h'.get? a = some o) → Inv its.length σ' → R (.ok .next) { s' with heap := h', toks := tk }) : codeAny (model X.prog X.w) X.A (.compLoop e k (.ref I) acc X.env) R s := by
  have K := CompK.of hc X.env
  refine codeAny_loop (K.quiet ..) (CLJ X I σ Z s its.length Inv S) (fun n s' hj => ?_) its.length ⟨0, σ, Z, rfl, Nat.zero_le _, ExtI.refl r hI hf hz, inv0, st⟩
  rw [K.wl]
  show wpAny _ _ (denote table (.compLoop e k (.ref I) acc X.env)) _ _ s'
  obtain ⟨f, hden⟩ := K.loop k (.ref I) acc
  rw [hden]
  exact wpAny_onRaise (wpAny_mono (CLK.core hc has hg it hle hb Inv turn fin hj) (fun _ _ h => h) fun _ _ h => h.elim)

theorem comp_start {e : PySem.Expr} (hc : isComp e = true) {k : Nat} {target iter : PySem.Expr} {ifs : List PySem.Expr} (hg : (clausesOf e)[k]? = some ⟨target, iter, ifs, 0⟩) {I : Addr} {acc : Value} {R : Result → Shared → Prop}
    (h0 : codeAny (model X.prog X.w) X.A (.compLoop e k (.ref I) acc X.env) R s) (hself : ∀ Q : Value → Shared → Prop, Q (.ref I) s → wpAny (model X.prog X.w) X.A (pyIter (.ref I)) Q Nope s) :
    codeAny (model X.prog X.w) X.A (.compStart e k (.ref I) acc X.env) R s := by
  have K := CompK.of hc X.env
  have hq := K.quiet k (.ref I) acc
  refine codeAny_of_tree ?_
  rw [K.ws]
  show wpAny _ _ (denote table (.compStart e k (.ref I) acc X.env)) _ _ s
  rw [K.start]
  refine wpAny_onRaise (wpAny_mono (E' := fun e s' => wpAny (model X.prog X.w) X.A (do noteFrame e X.env; standAt theWindowsPlace) (fun _ s'' => R (.error e) s'') (fun e s' => R (.error e) s') s') (E := Nope) ?_ (fun _ _ h => h) fun _ _ h => h.elim)
  unfold compStart
  rw [hg]
  show wpAny _ _ (ask >>= _) _ _ s
  refine wpAny_bind (wpAny_askSetting (wpAny_ite ?_))
  split
  · exact wpAny_bind (wpAny_pure (wpAny_pure (And.intro hq h0)))
  · refine wpAny_bind (wpAny_rule ?_)
    show wpAny _ _ (standAt iter.pos >>= _) _ _ s
    exact wpAny_bind (wpAny_standAt (wpAny_bind (hself _ (wpAny_pure (And.intro hq h0)))))

/-! what is iterated over in a comprehension -/
noncomputable def ITERC (X : Cx) (target : PySem.Expr) (σ : St) (d : V) (its : List V) : Prop := ∀ Z s v (Q : Value → Shared → Prop), Rel X σ Z s → VRel X.prog X.w Z d v →
  (∀ o S, o.isFreed = false → Iter X target Z s.heap.objs.size its S → (∀ i s' (A : Around) (Q : Value → Shared → Prop), S i s'.heap → Q (.ref s.heap.objs.size) s' → wpAny (model X.prog X.w) A (pyIter (.ref s.heap.objs.size)) Q Nope s') → S 0 (s.heap.push o) → Q (.ref s.heap.objs.size) { s with heap := s.heap.push o }) → wpAny (model X.prog X.w) X.A (pyIter v) Q Nope s
variable {target : PySem.Expr}
theorem ITERC.list {l : List V} (hA : X.A.handled = none) : ITERC X target σ (.list l) l := fun Z s v Q r hv k => by
  obtain ⟨a, its, n, rfl, ha, hr⟩ := hv
  have ho := r.zin _ _ ha
  exact wpAny_pyIter_list ⟨_, ho, rfl, n, rfl⟩ (k _ _ rfl (Iter.ofList hA ha hr) (fun i s' A Q h hq => wpAny_pyIter_listiter h.1 hq) ⟨⟨_, Heap.get?_push_size _ rfl, rfl, rfl⟩, Heap.get?_push_of_some _ ho⟩)
theorem ITERC.str {x : Str} (hA : X.A.handled = none) : ITERC X target σ (.str x) (signV x) := fun Z s v Q r hv k => by
  obtain ⟨t, rfl⟩ := hv
  refine wpAny_pyIter_strU (k _ _ rfl (Iter.ofStr hA) (fun i s' A Q h hq => ?_) ⟨_, Heap.get?_push_size _ rfl, rfl, rfl⟩)
  revert h
  unfold strIterType
  split
  · intro h; exact wpAny_pyIter_striter_ascii h hq
  · intro h; exact wpAny_pyIter_striter_wide h hq
theorem ITERC.rng {a b : Int} (hA : X.A.handled = none) (hs : Builtin.Range.small a b 1 = true) : ITERC X target σ (.rng a b) (rangeV a b) := fun Z s v Q r hv k => by
  obtain ⟨p, t, u, x, rfl, ha⟩ := hv
  have ho := r.zin _ _ ha
  refine wpAny_pyIter_range ho hs (k _ _ rfl (Iter.ofRange hA) (fun i s' A Q h hq => wpAny_pyIter_rangeiter h hq) ?_)
  have e1 : a + ((0 : Nat) : Int) = a := by omega
  have e2 : ((b - a).toNat : Int) - ((0 : Nat) : Int) = ((b - a).toNat : Int) := by omega
  rw [size_one, e1, e2]
  exact Heap.get?_push_size _ rfl
theorem IN.more {e : PySem.Expr} (hc : isComp e = true) (has : ∀ g ∈ clausesOf e, g.is_async = 0) {k : Nat} {iter : PySem.Expr} {ifs : List PySem.Expr} {acc : Value} {Q : St → Prop} (hg : (clausesOf e)[k + 1]? = some ⟨target, iter, ifs, 0⟩)
    (h : EV X iter σ fun d σ1 => ∃ its, ITERC X target σ1 d its ∧ ∃ Inv : Nat → St → Prop, Inv 0 σ1 ∧
      (∀ i di σ2, its[i]? = some di → Inv i σ2 → AS X target di σ2 fun σ3 => TS X ifs σ3 fun ok σ4 => if ok then IN X e (k + 1) acc σ4 (Inv (i + 1)) else Inv (i + 1) σ4) ∧
      (∀ σ2, Inv its.length σ2 → Q σ2))
    (hs : ∀ env x, foldedSetIterable iter env x = pure x := by intro _ _; rfl) : IN X e k acc σ Q := fun Z s K R r hK => by
  unfold innerT
  rw [hg]
  show wpAny _ _ (eval iter X.env >>= _) _ _ s
  refine wpAny_bind (J.use h r fun Z1 s1 σ1 d v x1 r1 h1 => ?_)
  obtain ⟨its, hit, Inv, inv0, turn, fin⟩ := h1
  refine wpAny_bind (wpAny_standAt ?_)
  rw [hs]
  refine wpAny_bind (wpAny_pure (wpAny_bind (wpAny_holding (hit Z1 s1 v _ x1.rel r1 fun o S hof it hself st0 => ?_))))
  have r1' := x1.rel
  have fresh : s1.heap.get? s1.heap.objs.size = none := Heap.get?_none_of_le (Nat.le_refl _)
  have y := (Ext.refl r1').push o
  have nb : X.base.get? s1.heap.objs.size = none := by
    cases e' : X.base.get? s1.heap.objs.size with
    | none => rfl
    | some o' => obtain ⟨o2, h2⟩ := r1'.old.there _ _ e'; rw [fresh] at h2; cases h2
  have nf : s1.heap.objs.size ∉ foot X σ1 := fun hm => absurd (r1'.lt _ hm) (Nat.lt_irrefl _)
  have nz : Z1 s1.heap.objs.size = none := by
    cases e' : Z1 s1.heap.objs.size with
    | none => rfl
    | some o2 => rw [r1'.zin _ _ e'] at fresh; cases fresh
  refine wpAny_bind (wpAny_runOwn (h := none) ?_)
  show codeAny _ X.A _ _ _
  refine comp_start hc hg (comp_loop hc has hg it (fun _ _ h => h) y.rel ⟨o, Heap.get?_push_size _ hof⟩ nf nz nb st0 Inv inv0 turn fun σ' Z' s' h' tk x hk inv => ?_) fun Q hq => hself 0 _ _ _ st0 hq
  have nn : ∀ a, (s1.heap.push o).get? a = none → s1.heap.get? a = none := fun a h => by
    cases e' : s1.heap.get? a with
    | none => rfl
    | some o2 => rw [Heap.get?_push_of_some _ e'] at h; cases h
  have x0 : Ext X σ1 Z1 s1 σ' Z' s' := ⟨x.rel, x.le, fun a o' e' hf ht => x.keep a o' (Heap.get?_push_of_some _ e') hf ht (fun h => by rw [h, fresh] at e'; cases e'), fun a ha => (x.new a ha).imp id (nn a), fun a o' hz' => (x.znew a o' hz').imp id (Or.imp id (nn a))⟩
  have x2 := Ext.butI (tk := tk) r1' x0 fresh x.out hk (fun _ _ h => h) (fun a o' e' => hk _ _ (fun h => by rw [h, x.zI] at e'; cases e') (x0.rel.zin _ _ e')) fun _ _ h => .inl h
  exact hK _ _ _ (x1.trans x2) (fin _ inv)

theorem IN.append {elt gens scope pos k} {D : Addr} {Q : St → Prop} (hg : gens[k + 1]? = none)
    (h : EV X elt σ fun d σ1 => ∃ l, (D, Cell.list l) ∈ σ1.mem ∧ l.length ≤ sizeLine ∧ ∃ mem', UpM D (.list (l ++ [d])) σ1.mem mem' ∧ Q { σ1 with mem := mem' }) : IN X (.ListComp elt gens scope pos) k (.ref D) σ Q := fun Z s K R r hK => by
  unfold innerT
  have hg' : (clausesOf (PySem.Expr.ListComp elt gens scope pos))[k + 1]? = none := hg
  rw [hg']
  show wpAny _ _ ((eval elt X.env >>= fun x => call (.builtin "list.append") [.ref D, x] >>= fun _ => pure ()) >>= fun _ => K) _ _ s
  refine wpAny_bind (wpAny_bind (J.use h r fun Z1 s1 σ1 d v x1 r1 h1 => ?_))
  obtain ⟨l, hm, hsz, mem', hu, hq⟩ := h1
  obtain ⟨its, hp, hr⟩ := x1.rel.mem _ hm
  have hsz' : its.size = l.length := by rw [← hr.length]; simp
  refine wpAny_bind (wpAny_list_append_plain hp (fun h' hp' hs => ?_) (by omega))
  refine wpAny_pure (hK _ _ _ (x1.trans (x1.rel.setMem hu hs ⟨_, hp', ?_⟩)) hq)
  rw [Array.toList_push]
  exact hr.append ⟨v, [], rfl, r1, rfl⟩

/-- a list of the ledger is frozen -/
theorem Ext.freeze (x : Ext X σ Z s σ' Z' s') {m1 m2 : List (Addr × Cell)} {D : Addr} {c : Cell} (hm : σ'.mem = m1 ++ (D, c) :: m2) {o : Obj} (ho : s'.heap.get? D = some o) :
    Ext X σ Z s { σ' with mem := m1 ++ m2 } (Zput Z' D o) s' ∧ Z'.le (Zput Z' D o) := by
  have r := x.rel
  have hD : D ∈ keys σ'.mem := by rw [hm]; simp [keys]
  have hDf : D ∈ foot X σ' := by unfold foot; exact List.mem_cons_of_mem _ (List.mem_append_right _ hD)
  have le : Z'.le (Zput Z' D o) := Zput.le fun o' e => by rw [r.zfoot D hDf] at e; cases e
  have e1 : keys σ'.mem = keys m1 ++ D :: keys m2 := by rw [hm]; simp [keys]
  have e2 : keys (m1 ++ m2) = keys m1 ++ keys m2 := by simp [keys]
  have sub : ∀ a ∈ keys (m1 ++ m2), a ∈ keys σ'.mem := fun a ha => by
    rw [e2] at ha; rw [e1]
    rcases List.mem_append.mp ha with h | h
    · exact List.mem_append_left _ h
    · exact List.mem_append_right _ (List.mem_cons_of_mem _ h)
  have fsub : ∀ a ∈ foot X { σ' with mem := m1 ++ m2 }, a ∈ foot X σ' := fun a ha => by
    unfold foot at ha ⊢
    rcases List.mem_cons.mp ha with h | h
    · exact h ▸ List.mem_cons_self
    · rcases List.mem_append.mp h with h | h
      · exact List.mem_cons_of_mem _ (List.mem_append_left _ h)
      · exact List.mem_cons_of_mem _ (List.mem_append_right _ (sub a h))
  have nd := r.nd
  have ndD : D ∉ foot X { σ' with mem := m1 ++ m2 } := fun hf => by
    unfold foot at nd hf
    rw [e1] at nd
    have n1 := List.nodup_cons.mp nd
    have n2 := List.nodup_append.mp n1.2
    have n3 := List.nodup_append.mp n2.2.1
    rcases List.mem_cons.mp hf with h | h
    · exact n1.1 (h ▸ List.mem_append_right _ (List.mem_append_right _ List.mem_cons_self))
    · rcases List.mem_append.mp h with h | h
      · exact n2.2.2 D h D (List.mem_append_right _ List.mem_cons_self) rfl
      · rw [e2] at h
        rcases List.mem_append.mp h with h | h
        · exact n3.2.2 D h D List.mem_cons_self rfl
        · exact (List.nodup_cons.mp n3.2.1).1 h
  refine ⟨⟨⟨⟨r.fr.lnd, r.fr.lk, r.fr.ck, r.fr.cnd, r.fr.cinj, r.fr.pk, r.fr.dbg, r.fr.kind⟩, fun a o' e => ?_, fun a o' e ht => le _ _ (r.st a o' e ht), fun a ha => ?_, r.old, r.os, r.gens, ?_, ?_, ?_, r.ownc, ?_, ?_, ?_, fun a ha => r.bfoot a (fsub a ha), fun a ha => r.ex a (fsub a ha), (let ⟨o3, h3⟩ := r.g3; ⟨o3, le _ _ h3⟩), fun a ha => r.low a (sub a ha)⟩, fun a o' e => le _ _ (x.le a o' e), x.keep, fun a ha => x.new a (sub a ha), fun a o' e => ?_⟩, le⟩
  · unfold Zput at e
    split at e
    · subst_vars; cases e; exact ho
    · exact r.zin _ _ e
  · unfold Zput
    split
    · rename_i h
      obtain ⟨ob, _, hb, _⟩ := ha
      rw [h, r.bfoot D hDf] at hb; cases hb
    · exact r.ztab a ha
  · obtain ⟨m, hn, hm'⟩ := r.ns; exact ⟨m, hn, fun y ov h => (hm' y ov h).mono le⟩
  · intro y ov hy; obtain ⟨c', uo, hw, hc, hv, hr⟩ := r.cells y ov hy; exact ⟨c', uo, hw, hc, hv, hr.mono le⟩
  · intro y d hy; obtain ⟨c', oc, v, hc, hz, hd, hr⟩ := r.cap y d hy; exact ⟨c', oc, v, hc, le _ _ hz, hd, hr.mono le⟩
  · intro p hp
    refine (r.mem p ?_).mono le (fun _ e => e)
    rw [hm]
    rcases List.mem_append.mp hp with h | h
    · exact List.mem_append_left _ h
    · exact List.mem_append_right _ (List.mem_cons_of_mem _ h)
  · unfold foot at nd ⊢
    rw [e1] at nd
    rw [show keys ({ σ' with mem := m1 ++ m2 } : St).mem = keys m1 ++ keys m2 from e2]
    have n1 := List.nodup_cons.mp nd
    have n2 := List.nodup_append.mp n1.2
    have n3 := List.nodup_append.mp n2.2.1
    refine List.nodup_cons.mpr ⟨fun h => n1.1 ?_, List.nodup_append.mpr ⟨n2.1, List.nodup_append.mpr ⟨n3.1, (List.nodup_cons.mp n3.2.1).2, fun a ha b hb => n3.2.2 a ha b (List.mem_cons_of_mem _ hb)⟩, fun a ha b hb => n2.2.2 a ha b ?_⟩⟩
    · rcases List.mem_append.mp h with h | h
      · exact List.mem_append_left _ h
      · rcases List.mem_append.mp h with h | h
        · exact List.mem_append_right _ (List.mem_append_left _ h)
        · exact List.mem_append_right _ (List.mem_append_right _ (List.mem_cons_of_mem _ h))
    · rcases List.mem_append.mp hb with h | h
      · exact List.mem_append_left _ h
      · exact List.mem_append_right _ (List.mem_cons_of_mem _ h)
  · intro a ha
    unfold Zput
    split
    · rename_i h; rw [h] at ha; exact absurd ha ndD
    · exact r.zfoot a (fsub a ha)
  · unfold Zput at e
    split at e
    · rename_i h; rw [h]; exact .inr (x.new _ hD)
    · exact x.znew _ _ e
end
end Mine
end
section
open PySem PySem.Spec PySem.Calls PyProof.Rows PySem.W
namespace Mine

/-- the names that a comprehension's scope takes from around it -/
noncomputable def capFrom (cells : List (Str × Addr)) : List (Str × NameKind) → List (Str × Addr) → List (Str × Addr)
  | [], acc => acc
  | (n, k) :: r, acc => if k == .free then (match cells.lookup n with
      | some c => capFrom cells r ((n, c) :: acc)
      | none => capFrom cells r acc) else capFrom cells r acc

theorem closureFor_eq {scope : Scope} {env : Env} (h : ∀ x ∈ scope.names, x.2 = .free → (env.cells.lookup x.1).isSome = true) : closureFor scope env = pure (capFrom env.cells scope.names []) := by
  have key : ∀ (names : List (Str × NameKind)) (acc : List (Str × Addr)), (∀ x ∈ names, x.2 = .free → (env.cells.lookup x.1).isSome = true) →
      (forIn names acc fun (x : Str × NameKind) (cs : List (Str × Addr)) => (match x with | (name, kind) => if kind == .free then (do let a ← cellOf env name; pure (ForInStep.yield ((name, a) :: cs))) else pure (ForInStep.yield cs) : Sem _)) = pure (capFrom env.cells names acc) := by
    intro names
    induction names with
    | nil => intro acc _; rfl
    | cons p names ih =>
      intro acc hh
      obtain ⟨n, k⟩ := p
      rw [List.forIn_cons]
      unfold capFrom
      by_cases hk : (k == .free) = true
      · obtain ⟨c, hc⟩ := Option.isSome_iff_exists.mp (hh (n, k) (.head _) (beq_iff_eq.mp hk))
        have hc' : env.cells.lookup n = some c := hc
        simp only [hk, if_true, hc', cellOf]
        exact ih _ fun x hx => hh x (.tail _ hx)
      · simp only [hk, if_false]
        exact ih _ fun x hx => hh x (.tail _ hx)
  unfold closureFor
  exact congrArg (fun t => Sem.bind t _) (key scope.names [] h)

theorem capFrom_keys {cells : List (Str × Addr)} : ∀ (names : List (Str × NameKind)) (acc : List (Str × Addr)) (x : Str), x ∉ names.map (·.1) → (capFrom cells names acc).lookup x = acc.lookup x
  | [], _, _, _ => rfl
  | (n, k) :: r, acc, x, h => by
    simp only [List.map_cons, List.mem_cons, not_or] at h
    unfold capFrom
    split
    · split
      · rw [capFrom_keys r _ x h.2, List.lookup_cons]
        split
        · rename_i e; exact absurd (beq_iff_eq.mp e) h.1
        · rfl
      · exact capFrom_keys r _ x h.2
    · exact capFrom_keys r _ x h.2
theorem capFrom_at {cells : List (Str × Addr)} : ∀ (names : List (Str × NameKind)) (acc : List (Str × Addr)) (x : Str) (c : Addr), (names.map (·.1)).Nodup → (x, NameKind.free) ∈ names → cells.lookup x = some c → (capFrom cells names acc).lookup x = some c
  | [], _, _, _, _, h, _ => by cases h
  | (n, k) :: r, acc, x, c, nd, h, hc => by
    simp only [List.map_cons, List.nodup_cons] at nd
    unfold capFrom
    rcases List.mem_cons.mp h with e | h
    · cases e
      simp only [beq_self_eq_true, if_true, hc]
      rw [capFrom_keys r _ n nd.1, List.lookup_cons, beq_self_eq_true]
    · split
      · split
        · exact capFrom_at r _ x c nd.2 h hc
        · exact capFrom_at r _ x c nd.2 h hc
      · exact capFrom_at r _ x c nd.2 h hc

theorem cellsFrom_append : ∀ (names : List (Str × NameKind)) (n : Nat) (acc : List (Str × Addr)), cellsFrom n names acc = cellsFrom n names [] ++ acc
  | [], _, _ => rfl
  | (nm, k) :: r, n, acc => by
    unfold cellsFrom
    split
    · rw [cellsFrom_append r (n + 1) ((nm, n) :: acc), cellsFrom_append r (n + 1) [(nm, n)]]; simp
    · exact cellsFrom_append r n acc
theorem lookup_append {l l' : List (Str × Addr)} {x : Str} : (l ++ l').lookup x = (l.lookup x).or (l'.lookup x) := by
  induction l with
  | nil => rfl
  | cons p l ih =>
    obtain ⟨y, a⟩ := p
    rw [List.cons_append, List.lookup_cons, List.lookup_cons]
    split
    · rfl
    · exact ih
theorem cellsFrom_none : ∀ (names : List (Str × NameKind)) (n : Nat) (x : Str), (x, NameKind.cell) ∉ names → (cellsFrom n names []).lookup x = none
  | [], _, _, _ => rfl
  | (nm, k) :: r, n, x, h => by
    simp only [List.mem_cons, not_or] at h
    unfold cellsFrom
    split
    · rename_i hk
      rw [cellsFrom_append, lookup_append, cellsFrom_none r (n + 1) x h.2]
      show List.lookup x [(nm, n)] = none
      rw [List.lookup_cons]
      split
      · rename_i e
        exact absurd (by rw [beq_iff_eq.mp e, beq_iff_eq.mp hk]) h.1
      · rfl
    · exact cellsFrom_none r n x h.2

/-- the names of a comprehension's scope: its own, and those from around it with their values -/
inductive ScL (cel : List (Str × Option V)) (cap : List (Str × V)) : List (Str × NameKind) → List (Str × Option V) → List (Str × Option V) → List (Str × V) → Prop
  | nil : ScL cel cap [] [] [] []
  | loc {n r l c p} : ScL cel cap r l c p → ScL cel cap ((n, .local) :: r) ((n, none) :: l) c p
  | cell {n r l c p} : ScL cel cap r l c p → ScL cel cap ((n, .cell) :: r) l ((n, none) :: c) p
  | glob {n r l c p} : ScL cel cap r l c p → ScL cel cap ((n, .globalImplicit) :: r) l c p
  | cap {n d r l c p} : (n, d) ∈ cap → ScL cel cap r l c p → ScL cel cap ((n, .free) :: r) l c ((n, d) :: p)
  | cel {n d r l c p} : (n, some d) ∈ cel → ScL cel cap r l c p → ScL cel cap ((n, .free) :: r) l c ((n, d) :: p)
namespace ScL
variable {cel : List (Str × Option V)} {cap : List (Str × V)} {names : List (Str × NameKind)} {l c : List (Str × Option V)} {p : List (Str × V)}
theorem locs (h : ScL cel cap names l c p) : ∀ x ov, (x, ov) ∈ l → (x, NameKind.local) ∈ names ∧ ov = none := by
  induction h with
  | nil => intro x ov h; cases h
  | loc _ ih =>
    intro x ov hx
    rcases List.mem_cons.mp hx with e | hx
    · cases e; exact ⟨.head _, rfl⟩
    · exact ⟨.tail _ (ih x ov hx).1, (ih x ov hx).2⟩
  | cell _ ih => intro x ov hx; exact ⟨.tail _ (ih x ov hx).1, (ih x ov hx).2⟩
  | glob _ ih => intro x ov hx; exact ⟨.tail _ (ih x ov hx).1, (ih x ov hx).2⟩
  | cap _ _ ih => intro x ov hx; exact ⟨.tail _ (ih x ov hx).1, (ih x ov hx).2⟩
  | cel _ _ ih => intro x ov hx; exact ⟨.tail _ (ih x ov hx).1, (ih x ov hx).2⟩
theorem cells (h : ScL cel cap names l c p) : ∀ x ov, (x, ov) ∈ c → (x, NameKind.cell) ∈ names ∧ ov = none := by
  induction h with
  | nil => intro x ov h; cases h
  | cell _ ih =>
    intro x ov hx
    rcases List.mem_cons.mp hx with e | hx
    · cases e; exact ⟨.head _, rfl⟩
    · exact ⟨.tail _ (ih x ov hx).1, (ih x ov hx).2⟩
  | loc _ ih => intro x ov hx; exact ⟨.tail _ (ih x ov hx).1, (ih x ov hx).2⟩
  | glob _ ih => intro x ov hx; exact ⟨.tail _ (ih x ov hx).1, (ih x ov hx).2⟩
  | cap _ _ ih => intro x ov hx; exact ⟨.tail _ (ih x ov hx).1, (ih x ov hx).2⟩
  | cel _ _ ih => intro x ov hx; exact ⟨.tail _ (ih x ov hx).1, (ih x ov hx).2⟩
theorem caps (h : ScL cel cap names l c p) : ∀ x d, (x, d) ∈ p → (x, NameKind.free) ∈ names ∧ ((x, d) ∈ cap ∨ (x, some d) ∈ cel) := by
  induction h with
  | nil => intro x ov h; cases h
  | cap hd _ ih =>
    intro x ov hx
    rcases List.mem_cons.mp hx with e | hx
    · cases e; exact ⟨.head _, .inl hd⟩
    · exact ⟨.tail _ (ih x ov hx).1, (ih x ov hx).2⟩
  | cel hd _ ih =>
    intro x ov hx
    rcases List.mem_cons.mp hx with e | hx
    · cases e; exact ⟨.head _, .inr hd⟩
    · exact ⟨.tail _ (ih x ov hx).1, (ih x ov hx).2⟩
  | loc _ ih => intro x ov hx; exact ⟨.tail _ (ih x ov hx).1, (ih x ov hx).2⟩
  | glob _ ih => intro x ov hx; exact ⟨.tail _ (ih x ov hx).1, (ih x ov hx).2⟩
  | cell _ ih => intro x ov hx; exact ⟨.tail _ (ih x ov hx).1, (ih x ov hx).2⟩
theorem lkeys (h : ScL cel cap names l c p) : (l.map (·.1)).Sublist (names.map (·.1)) := by
  induction h with
  | nil => exact .slnil
  | loc _ ih => exact .cons_cons _ ih
  | cell _ ih => exact .cons _ ih
  | glob _ ih => exact .cons _ ih
  | cap _ _ ih => exact .cons _ ih
  | cel _ _ ih => exact .cons _ ih
theorem ckeys (h : ScL cel cap names l c p) : (c.map (·.1)).Sublist (names.map (·.1)) := by
  induction h with
  | nil => exact .slnil
  | cell _ ih => exact .cons_cons _ ih
  | loc _ ih => exact .cons _ ih
  | glob _ ih => exact .cons _ ih
  | cap _ _ ih => exact .cons _ ih
  | cel _ _ ih => exact .cons _ ih
theorem pkeys (h : ScL cel cap names l c p) : (p.map (·.1)).Sublist (names.map (·.1)) := by
  induction h with
  | nil => exact .slnil
  | cell _ ih => exact .cons _ ih
  | loc _ ih => exact .cons _ ih
  | glob _ ih => exact .cons _ ih
  | cap _ _ ih => exact .cons_cons _ ih
  | cel _ _ ih => exact .cons_cons _ ih
end ScL

noncomputable def scopeOkC (names : List (Str × NameKind)) : Bool := decide (names.map (·.1)).Nodup && names.all fun p => !(p.1 == ("__debug__" : Str)) && !(p.1 == ("__classdict__" : Str))

theorem lookup_of_mem {β : Type} {l : List (Str × β)} (nd : (l.map (·.1)).Nodup) {x : Str} {b : β} (h : (x, b) ∈ l) : l.lookup x = some b := by
  induction l with
  | nil => cases h
  | cons p l ih =>
    obtain ⟨y, c⟩ := p
    simp only [List.map_cons, List.nodup_cons] at nd
    rw [List.lookup_cons]
    rcases List.mem_cons.mp h with e | h
    · cases e; rw [beq_self_eq_true]
    · split
      · rename_i e; exact absurd (List.mem_map_of_mem (f := (·.1)) h) (beq_iff_eq.mp e ▸ nd.1)
      · exact ih nd.2 h

theorem lookup_map_keys {β γ : Type} (f : Str → β → γ) (x : Str) : ∀ l : List (Str × β), (l.map fun p => (p.1, f p.1 p.2)).lookup x = (l.lookup x).map (f x)
  | [] => rfl
  | (n, k) :: r => by
    rw [List.map_cons, List.lookup_cons, List.lookup_cons]
    split
    · rename_i e; have := beq_iff_eq.mp e; subst this; simp
    · rename_i e; simp only [e]; exact lookup_map_keys f x r
theorem relabel_lookup {scope : Scope} {env : Env} {x : Str} : (relabel scope env).names.lookup x = (scope.names.lookup x).map fun k => if (k == .free && env.scope.kind == .function && env.kindOf x == some .cell) then .cell else k := by
  have e : (relabel scope env).names = scope.names.map fun p => (p.1, (fun x k => if (k == NameKind.free && env.scope.kind == .function && env.kindOf x == some .cell) then NameKind.cell else k) p.1 p.2) := by
    unfold relabel
    refine congrArg (fun f => List.map f scope.names) (funext fun p => ?_)
    obtain ⟨n, k⟩ := p
    dsimp only
    split <;> rfl
  rw [e]
  exact lookup_map_keys (fun x k => if (k == NameKind.free && env.scope.kind == .function && env.kindOf x == some .cell) then NameKind.cell else k) x _
end Mine
end
section
open PySem PySem.Spec PySem.Calls PyProof.Rows PySem.W
namespace Mine
section
variable {X : Cx} {σ σ' σ'' : St} {Z Z' Z'' : ZM} {s s' s'' : Shared} {P : V → St → Prop}

noncomputable def compEnv (env : Env) (scope : Scope) (C : Addr) : Env := { scope := relabel scope env, locals := C, globals := env.globals, cells := cellsFrom (C + 1) scope.names (capFrom env.cells scope.names []), qual := env.qual, func := none, code := env.code, frame := env.frame, builtins := env.builtins }
noncomputable def Cx.comp (X : Cx) (scope : Scope) (C : Addr) : Cx := { X with env := compEnv X.env scope C, own := (cellsFrom (C + 1) scope.names []).map (·.2) }
noncomputable def Zcomp (X : Cx) (h : Heap) (Z : ZM) : ZM := fun a => if a ∈ X.own then h.get? a else Z a

theorem comp_enter (r : Rel X σ Z s) {scope : Scope} {locc celc : List (Str × Option V)} {capc : List (Str × V)} (hL : ScL σ.cel σ.cap scope.names locc celc capc) (hok : scopeOkC scope.names = true) (hk : scope.kind = .function) :
    Rel (X.comp scope s.heap.objs.size) ⟨locc, celc, capc, σ.mem⟩ (Zcomp X s.heap Z) { s with heap := pushCells (s.heap.push { cls := .type "dict", data := .dict #[] }) scope.names } ∧
    (∀ b o, s.heap.get? b = some o → (pushCells (s.heap.push { cls := .type "dict", data := .dict #[] }) scope.names).get? b = some o) ∧ Z.le (Zcomp X s.heap Z) ∧
    (∀ a o, Zcomp X s.heap Z a = some o → Z a = some o ∨ (a ∈ X.own ∧ ∃ v, o.data = .cell v)) ∧
    (∀ b ∈ foot (X.comp scope s.heap.objs.size) ⟨locc, celc, capc, σ.mem⟩, b ∈ keys σ.mem ∨ s.heap.get? b = none) := by
  simp only [scopeOkC, Bool.and_eq_true, decide_eq_true_eq, List.all_eq_true, Bool.not_eq_true'] at hok
  obtain ⟨hnn, hdb⟩ := hok
  generalize hC : s.heap.objs.size = C
  generalize hh₁ : s.heap.push { cls := .type "dict", data := .dict #[] } = h₁
  have sz₁ : h₁.objs.size = C + 1 := by rw [← hh₁, Heap.size_push, hC]
  have k1 : ∀ b o, s.heap.get? b = some o → h₁.get? b = some o := fun b o e => by rw [← hh₁]; exact Heap.get?_push_of_some _ e
  have k2 : ∀ b o, s.heap.get? b = some o → (pushCells h₁ scope.names).get? b = some o := fun b o e => pushCells_keeps _ _ _ _ (k1 b o e)
  have getC : h₁.get? C = some { cls := .type "dict", data := .dict #[] } := by rw [← hh₁, ← hC]; exact Heap.get?_push_size _ rfl
  have okA : CellsOk (pushCells h₁ scope.names) (C + 1) (cellsFrom (C + 1) scope.names []) := by
    have := cellsFrom_ok scope.names h₁ (C + 1) [] ⟨(fun _ _ h => by cases h), List.Pairwise.nil⟩ (by rw [sz₁]; exact Nat.le_refl _)
    rw [sz₁] at this; exact this
  have abA : ∀ c ∈ (cellsFrom (C + 1) scope.names []).map (·.2), C < c ∧ ∃ uo, (pushCells h₁ scope.names).IsCell c uo := fun c hc => by
    obtain ⟨p, hp, rfl⟩ := List.mem_map.mp hc
    exact ⟨(okA.empty p.1 p.2 hp).2, _, (okA.empty p.1 p.2 hp).1⟩
  have ltC : ∀ b o, s.heap.get? b = some o → b < C := fun b o e => hC ▸ Heap.lt_size e
  have gone : ∀ b, C ≤ b → s.heap.get? b = none := fun b hb => by
    cases e : s.heap.get? b with
    | none => rfl
    | some o => exact absurd (ltC _ _ e) (Nat.not_lt.mpr hb)
  have inC : ∀ c ∈ X.own, c ∈ foot X σ := fun c hc => List.mem_cons_of_mem _ (List.mem_append_left _ hc)
  have inK : ∀ c ∈ keys σ.mem, c ∈ foot X σ := fun c hc => List.mem_cons_of_mem _ (List.mem_append_right _ hc)
  have nd := r.nd
  unfold foot at nd
  have n1 := List.nodup_cons.mp nd
  have n2 := List.nodup_append.mp n1.2
  have le : Z.le (Zcomp X s.heap Z) := fun a o e => by
    unfold Zcomp
    split
    · rename_i h; rw [r.zfoot a (inC a h)] at e; cases e
    · exact e
  have zin : ∀ a o, Zcomp X s.heap Z a = some o → s.heap.get? a = some o := fun a o e => by
    unfold Zcomp at e
    split at e
    · exact e
    · exact r.zin _ _ e
  have footc : ∀ b ∈ foot (X.comp scope C) ⟨locc, celc, capc, σ.mem⟩, b = C ∨ b ∈ (cellsFrom (C + 1) scope.names []).map (·.2) ∨ b ∈ keys σ.mem := fun b hb => by
    rcases List.mem_cons.mp hb with h | hb
    · exact .inl h
    · rcases List.mem_append.mp hb with h | h
      · exact .inr (.inl h)
      · exact .inr (.inr h)
  have footc2 : ∀ b ∈ foot (X.comp scope C) ⟨locc, celc, capc, σ.mem⟩, b ∈ keys σ.mem ∨ s.heap.get? b = none := fun b hb => by
    rcases footc b hb with rfl | h | h
    · exact .inr (gone _ (Nat.le_refl _))
    · exact .inr (gone _ (Nat.le_of_lt (abA b h).1))
    · exact .inl h
  have lkl : ∀ x k, (x, k) ∈ scope.names → (compEnv X.env scope C).kindOf x = some (if (k == .free && X.env.scope.kind == .function && X.env.kindOf x == some .cell) then .cell else k) := fun x k hx => by
    show (relabel scope X.env).names.lookup x = _
    rw [relabel_lookup, lookup_of_mem hnn hx]; rfl
  have keyin : ∀ x, x ∈ locc.map (·.1) ++ (celc.map (·.1) ++ capc.map (·.1)) → x ∈ scope.names.map (·.1) := fun x hx => by
    rcases List.mem_append.mp hx with h | h
    · exact hL.lkeys.subset h
    · rcases List.mem_append.mp h with h | h
      · exact hL.ckeys.subset h
      · exact hL.pkeys.subset h
  have cellsLk : ∀ x, (x, NameKind.cell) ∈ scope.names → ∃ c, (cellsFrom (C + 1) scope.names []).lookup x = some c ∧ (compEnv X.env scope C).cells.lookup x = some c := fun x hx => by
    obtain ⟨c, hc⟩ := Option.isSome_iff_exists.mp (cellsFrom_kind (n := C + 1) (lookup_of_mem hnn hx))
    refine ⟨c, hc, ?_⟩
    show (cellsFrom (C + 1) scope.names (capFrom X.env.cells scope.names [])).lookup x = some c
    rw [cellsFrom_append, lookup_append, hc]; rfl
  refine ⟨⟨⟨hL.lkeys.nodup hnn, fun p hp => ?_, fun p hp => ?_, hL.ckeys.nodup hnn, fun x y c hx hy h1 h2 => ?_, fun p hp => ?_, fun x hx => ?_, hk⟩, fun a o e => k2 _ _ (zin a o e), fun a o e ht => le _ _ (r.st a o e ht), fun a ha => ?_, r.old.step_keeps k2, r.os, r.gens,
    ⟨fun _ => none, ?_, fun x ov hx => ?_⟩, fun x ov hx => ?_, fun x d hx => ?_, fun c hc => (abA c hc).2, fun p hp => ?_, ?_, fun b hb => ?_, fun b hb => ?_, fun b hb => ?_, (let ⟨o3, h3⟩ := r.g3; ⟨o3, le _ _ h3⟩), r.low⟩, k2, le, fun a o e => ?_, footc2⟩
  · obtain ⟨x, ov⟩ := p
    exact (lkl x _ (hL.locs x ov hp).1).trans rfl
  · obtain ⟨x, ov⟩ := p
    exact (lkl x _ (hL.cells x ov hp).1).trans rfl
  · obtain ⟨p, hp, rfl⟩ := List.mem_map.mp hx
    obtain ⟨q, hq, rfl⟩ := List.mem_map.mp hy
    obtain ⟨c1, e1, e1'⟩ := cellsLk p.1 (hL.cells p.1 p.2 hp).1
    obtain ⟨c2, e2, e2'⟩ := cellsLk q.1 (hL.cells q.1 q.2 hq).1
    have h1' : (compEnv X.env scope C).cells.lookup p.1 = some c := h1
    have h2' : (compEnv X.env scope C).cells.lookup q.1 = some c := h2
    rw [e1'] at h1'; cases h1'
    rw [e2'] at h2'; cases h2'
    exact apart_inj okA.apart e1 e2
  · obtain ⟨x, d⟩ := p
    rw [show (X.comp scope C).env.kindOf x = _ from lkl x _ (hL.caps x d hp).1]
    split
    · exact .inl rfl
    · exact .inr rfl
  · obtain ⟨p, hp, rfl⟩ := List.mem_map.mp (keyin x hx)
    exact hdb p hp
  · unfold Zcomp
    split
    · rename_i h
      obtain ⟨ob, _, e, _⟩ := ha
      have hb := r.bfoot a (inC a h)
      rw [show X.base.get? a = some ob from e] at hb; cases hb
    · exact r.ztab a ha
  · exact ⟨_, #[], 0, pushCells_keeps _ _ _ _ getC, rfl, fun e he => by simp at he, fun name => rfl⟩
  · rw [(hL.locs x ov hx).2]; trivial
  · obtain ⟨hx1, rfl⟩ := hL.cells x ov hx
    obtain ⟨c, e1, e2⟩ := cellsLk x hx1
    exact ⟨c, none, List.mem_map.mpr ⟨(x, c), lookup_mem e1, rfl⟩, e2, (okA.empty x c (lookup_mem e1)).1, trivial⟩
  · obtain ⟨hx1, hx2⟩ := hL.caps x d hx
    have nocell : (x, NameKind.cell) ∉ scope.names := fun h => by
      have a1 := lookup_of_mem hnn h
      rw [lookup_of_mem hnn hx1] at a1; cases a1
    have lk : ∀ c, X.env.cells.lookup x = some c → (compEnv X.env scope C).cells.lookup x = some c := fun c hc => by
      show (cellsFrom (C + 1) scope.names (capFrom X.env.cells scope.names [])).lookup x = some c
      rw [cellsFrom_append, lookup_append, cellsFrom_none _ _ _ nocell, Option.none_or]
      exact capFrom_at _ _ _ _ hnn hx1 hc
    rcases hx2 with h | h
    · obtain ⟨c, o, v, hc, hz, hd, hr⟩ := r.cap x d h
      exact ⟨c, o, v, lk c hc, le _ _ hz, hd, hr.mono le⟩
    · obtain ⟨c, uo, hw, hc, ⟨o, ho, hd⟩, u, rfl, hr⟩ := r.cells x _ h
      refine ⟨c, o, u, lk c hc, ?_, hd, hr.mono le⟩
      unfold Zcomp
      rw [if_pos hw]; exact ho
  · exact (r.mem p hp).mono le fun o e => k2 _ _ e
  · show (C :: ((cellsFrom (C + 1) scope.names []).map (·.2) ++ keys σ.mem)).Nodup
    refine List.nodup_cons.mpr ⟨fun hm => ?_, List.nodup_append.mpr ⟨?_, n2.2.1, fun b hb c hc e => ?_⟩⟩
    · rcases List.mem_append.mp hm with h | h
      · exact Nat.lt_irrefl _ (abA _ h).1
      · obtain ⟨o, ho⟩ := r.ex _ (inK _ h); exact Nat.lt_irrefl _ (ltC _ _ ho)
    · rw [List.Nodup, List.pairwise_map]; exact okA.apart
    · subst e
      obtain ⟨o, ho⟩ := r.ex _ (inK _ hc)
      exact Nat.lt_irrefl _ (Nat.lt_trans (ltC _ _ ho) (abA _ hb).1)
  · cases e : Zcomp X s.heap Z b with
    | none => rfl
    | some o =>
      have hz := zin _ _ e
      rcases footc2 b hb with h | h
      · unfold Zcomp at e
        rw [if_neg (fun hw => n2.2.2 b hw b h rfl), r.zfoot b (inK b h)] at e; cases e
      · rw [h] at hz; cases hz
  · rcases footc2 b hb with h | h
    · exact r.bfoot b (inK b h)
    · cases e : X.base.get? b with
      | none => exact e
      | some o => obtain ⟨o2, h2⟩ := r.old.there _ _ e; rw [h] at h2; cases h2
  · rcases footc b hb with rfl | h | h
    · exact ⟨_, pushCells_keeps _ _ _ _ getC⟩
    · obtain ⟨_, uo, o, ho, _⟩ := abA b h; exact ⟨o, ho⟩
    · obtain ⟨o, ho⟩ := r.ex b (inK b h); exact ⟨o, k2 _ _ ho⟩
  · unfold Zcomp at e
    split at e
    · rename_i h
      obtain ⟨uo, o', ho', hd⟩ := r.ownc a h
      rw [ho'] at e; cases e
      exact .inr ⟨h, uo, hd⟩
    · exact .inl e

theorem wpAny_compEnv {M : Model} {A : Around} {E : Value → Shared → Prop} {scope : Scope} {env : Env} {cl : List (Str × Addr)} {Q : Env → Shared → Prop}
    (h : Q { scope, locals := s.heap.objs.size, globals := env.globals, cells := cellsFrom (s.heap.objs.size + 1) scope.names cl, qual := env.qual, func := none, code := env.code, frame := env.frame, builtins := env.builtins }
      { s with heap := pushCells (s.heap.push { cls := .type "dict", data := .dict #[] }) scope.names }) : wpAny M A (newFunctionEnv scope env.globals cl [] env.qual none .none (some env)) Q E s := by
  unfold newFunctionEnv
  refine wpAny_bind (wpAny_alloc ?_)
  refine wpAny_bind (wpAny_layCells _ (fun name kind cells => ?_) scope.names cl _ _ ?_)
  · rfl
  · have e : (s.heap.push { cls := .type (if (some env).isSome = true then "dict" else "frame"), data := .dict #[] }).objs.size = s.heap.objs.size + 1 := Heap.size_push ..
    show wpAny M A (pure _) Q E _
    refine wpAny_pure ?_
    dsimp only
    rw [e]
    exact h

theorem comp_bodyM {e : PySem.Expr} (hc : isComp e = true) {target iter : PySem.Expr} {ifs : List PySem.Expr} {gs : List Comprehension} (hcl : clausesOf e = ⟨target, iter, ifs, 0⟩ :: gs) (has : ∀ g ∈ gs, g.is_async = 0)
    {scope : Scope} (hok : scopeOkC scope.names = true) (hk : scope.kind = .function) {its : List V} {o oa : Obj} (hoa : oa.isFreed = false) {S : Nat → Heap → Prop} (hof : o.isFreed = false)
    (r : Rel X σ Z s) (it : Iter X target Z s.heap.objs.size its S) (hself : ∀ i s' (A : Around) (Q : Value → Shared → Prop), S i s'.heap → Q (.ref s.heap.objs.size) s' → wpAny (model X.prog X.w) A (pyIter (.ref s.heap.objs.size)) Q Nope s') (st0 : S 0 (s.heap.push o))
    {c0 : Cell} (hc0 : ∀ Z h a, h.get? a = some oa → CellRel X.prog X.w Z h a c0) {locc celc : List (Str × Option V)} {capc : List (Str × V)} (hL : ScL σ.cel σ.cap scope.names locc celc capc) {P : Cell → St → Prop}
    (h : ∀ C D, ∃ Inv : Nat → St → Prop, Inv 0 ⟨locc, celc, capc, σ.mem ++ [(D, c0)]⟩ ∧
      (∀ i di σ2, its[i]? = some di → Inv i σ2 → AS (X.comp scope C) target di σ2 fun σ3 => TS (X.comp scope C) ifs σ3 fun ok σ4 => if ok then IN (X.comp scope C) e 0 (.ref D) σ4 (Inv (i + 1)) else Inv (i + 1) σ4) ∧
      (∀ σ2, Inv its.length σ2 → ∃ c m1 m2, σ2.mem = m1 ++ (D, c) :: m2 ∧ m2 = [] ∧ P c { σ with mem := m1 ++ m2 }))
    {R : Result → Shared → Prop} (D C : Addr) (hD : D = (s.heap.push o).objs.size) (hC : C = ((s.heap.push o).push oa).objs.size)
    (fin : ∀ c m1 m2 Z' s', Ext X σ Z s { σ with mem := m1 ++ (D, c) :: m2 } Z' s' → P c { σ with mem := m1 ++ m2 } → m2 = [] → C ∉ foot X { σ with mem := m1 ++ (D, c) :: m2 } → Z' C = none → (∃ m, s'.heap.Ns C m) → R (.ok .next) s') :
    codeAny (model X.prog X.w) X.A (.compStart e 0 (.ref s.heap.objs.size) (.ref D) (compEnv X.env scope C)) R
      { s with heap := pushCells (((s.heap.push o).push oa).push { cls := .type "dict", data := .dict #[] }) scope.names } := by
  have fresh : s.heap.get? s.heap.objs.size = none := Heap.get?_none_of_le (Nat.le_refl _)
  have hgI : (s.heap.push o).get? s.heap.objs.size = some o := Heap.get?_push_size _ hof
  have x1 := (Ext.refl r).push o
  have x2 : Ext X σ Z s { σ with mem := σ.mem ++ [(D, c0)] } Z { s with heap := (s.heap.push o).push oa } := by
    have := x1.pushM oa (c := c0) hoa (hc0 _ _ _ (Heap.get?_push_size _ hoa))
    rw [← hD] at this; exact this
  obtain ⟨rc, kc, lec, hz1, hfc⟩ := comp_enter x2.rel hL hok hk
  have hC' : ({ s with heap := (s.heap.push o).push oa } : Shared).heap.objs.size = C := hC.symm
  rw [hC'] at rc hfc
  obtain ⟨Inv, inv0, turn, last⟩ := h C D
  have hI3 : ((s.heap.push o).push oa).get? s.heap.objs.size = some o := Heap.get?_push_of_some _ hgI
  have nb : ∀ a, s.heap.get? a = none → X.base.get? a = none := fun a ha => by
    cases e' : X.base.get? a with
    | none => rfl
    | some o' => obtain ⟨o2, h2⟩ := r.old.there _ _ e'; rw [ha] at h2; cases h2
  have ltI : s.heap.objs.size < D := by rw [hD, Heap.size_push]; exact Nat.lt_succ_self _
  have ltD : D < C := by rw [hC, hD]; simp only [Heap.size_push]; exact Nat.lt_succ_self _
  have goneC : ∀ b, s.heap.objs.size ≤ b → s.heap.get? b = none := fun b hb => Heap.get?_none_of_le hb
  have fI : s.heap.objs.size ∉ foot (X.comp scope C) ⟨locc, celc, capc, σ.mem ++ [(D, c0)]⟩ := fun hm => by
    rcases hfc _ hm with h' | h'
    · rw [show keys (σ.mem ++ [(D, c0)]) = keys σ.mem ++ [D] by simp [keys]] at h'
      rcases List.mem_append.mp h' with h' | h'
      · exact absurd (r.lt _ (by unfold foot; exact List.mem_cons_of_mem _ (List.mem_append_right _ h'))) (Nat.lt_irrefl _)
      · rw [List.mem_singleton] at h'; exact absurd ltI (by rw [h']; exact Nat.lt_irrefl _)
    · rw [show ({ s with heap := (s.heap.push o).push oa } : Shared).heap.get? s.heap.objs.size = some o from hI3] at h'; cases h'
  have zI : Zcomp X ((s.heap.push o).push oa) Z s.heap.objs.size = none := by
    unfold Zcomp
    split
    · rename_i hm; exact absurd (r.lt _ (by unfold foot; exact List.mem_cons_of_mem _ (List.mem_append_left _ hm))) (Nat.lt_irrefl _)
    · cases e' : Z s.heap.objs.size with
      | none => rfl
      | some o2 => rw [r.zin _ _ e'] at fresh; cases fresh
  have hgs : ∀ g ∈ clausesOf e, g.is_async = 0 := fun g hg => by
    rw [hcl] at hg
    rcases List.mem_cons.mp hg with rfl | hg
    · rfl
    · exact has g hg
  have hg0 : (clausesOf e)[0]? = some ⟨target, iter, ifs, 0⟩ := by rw [hcl]; rfl
  have it' : Iter (X.comp scope C) target Z s.heap.objs.size its S := ⟨it.frame, it.item, it.done⟩
  have st1 : S 0 (pushCells (((s.heap.push o).push oa).push { cls := .type "dict", data := .dict #[] }) scope.names) := it.frame _ _ _ st0 fun a o' _ e' => kc _ _ (Heap.get?_push_of_some _ e')
  refine comp_start (X := X.comp scope C) hc hg0 (comp_loop (X := X.comp scope C) hc hgs hg0 it' lec rc ⟨o, kc _ _ hI3⟩ fI zI (nb _ fresh) st1 Inv inv0 turn fun σ' Z' s' h' tk x hkI inv => ?_) fun Q hq => hself 0 _ _ _ st1 hq
  obtain ⟨c, m1, m2, hm, hm2, hP⟩ := last _ inv
  -- the state seen from where the comprehension began
  have kall : ∀ b o', s.heap.get? b = some o' → (pushCells (((s.heap.push o).push oa).push { cls := .type "dict", data := .dict #[] }) scope.names).get? b = some o' := fun b o' e' => kc _ _ (Heap.get?_push_of_some _ (Heap.get?_push_of_some _ e'))
  have nn : ∀ a, (pushCells (((s.heap.push o).push oa).push { cls := .type "dict", data := .dict #[] }) scope.names).get? a = none → s.heap.get? a = none := fun a ha => by
    cases e' : s.heap.get? a with
    | none => rfl
    | some o2 => rw [kall _ _ e'] at ha; cases ha
  -- the ledger handed in: that of the caller; D is new
  have lv : Ext X σ Z s { σ with mem := σ'.mem ++ [] } (Zout Z' X.own) s' ∧ ∀ a o, a ∈ X.own → Z' a = some o → ∃ v, o.data = .cell v := by
    refine leave' (A' := X.A) (env' := compEnv X.env scope C) (own' := (X.comp scope C).own) (σ₁ := ⟨locc, celc, capc, σ.mem ++ [(D, c0)]⟩) (sub := σ.mem) (rest := []) r (by simp) kall lec (fun a o' e' => hz1 a o' e') (fun b hb => ?_) x.rel x.le (fun a o' e' hf' ht hn => x.keep a o' e' hf' ht (fun h' => hn (h' ▸ fresh))) x.new x.znew
    rcases hfc b hb with h' | h'
    · rw [show keys (σ.mem ++ [(D, c0)]) = keys σ.mem ++ [D] by simp [keys]] at h'
      rcases List.mem_append.mp h' with h' | h'
      · exact .inl h'
      · rw [List.mem_singleton] at h'; rw [h']; exact .inr (goneC _ (Nat.le_of_lt ltI))
    · refine .inr ?_
      cases e' : s.heap.get? b with
      | none => rfl
      | some o2 => rw [show ({ s with heap := (s.heap.push o).push oa } : Shared).heap.get? b = some o2 from Heap.get?_push_of_some _ (Heap.get?_push_of_some _ e')] at h'; cases h'
  obtain ⟨y1, hS⟩ := lv
  rw [List.append_nil] at y1
  -- I, then the frozen result
  have hmk : keys σ'.mem = keys m1 ++ D :: keys m2 := by rw [hm]; simp [keys]
  have nd' := x.rel.nd
  have fIx : s.heap.objs.size ∉ foot X { σ with mem := σ'.mem } := fun hf' => by
    unfold foot at hf'
    rcases List.mem_cons.mp hf' with h' | h'
    · exact absurd (r.lt _ List.mem_cons_self) (by rw [← h']; exact Nat.lt_irrefl _)
    · rcases List.mem_append.mp h' with h' | h'
      · exact absurd (r.lt _ (by unfold foot; exact List.mem_cons_of_mem _ (List.mem_append_left _ h'))) (Nat.lt_irrefl _)
      · exact x.out (List.mem_cons_of_mem _ (List.mem_append_right _ h'))
  have zIx : Zout Z' X.own s.heap.objs.size = none := by unfold Zout; split; rfl; exact x.zI
  have y2 := Ext.butI (tk := tk) r y1 fresh fIx hkI (fun _ _ h' => h') (fun a o' e' => hkI _ _ (fun h' => by rw [h', zIx] at e'; cases e') (y1.rel.zin _ _ e')) fun _ _ h' => .inl h'
  have hCx : C ∈ foot (X.comp scope C) σ' := List.mem_cons_self
  have nCm : C ∉ keys σ'.mem := fun h' => by
    unfold foot at nd'
    exact (List.nodup_cons.mp nd').1 (List.mem_append_right _ h')
  have sIC : s.heap.objs.size < C := Nat.lt_trans ltI ltD
  rw [hm] at y2
  refine fin c m1 m2 _ _ y2 hP hm2 (fun hf' => ?_) ?_ ?_
  · unfold foot at hf'
    rcases List.mem_cons.mp hf' with h' | h'
    · exact absurd (r.lt _ List.mem_cons_self) (by rw [← h']; exact Nat.not_lt.mpr (Nat.le_of_lt sIC))
    · rcases List.mem_append.mp h' with h' | h'
      · exact absurd (r.lt _ (by unfold foot; exact List.mem_cons_of_mem _ (List.mem_append_left _ h'))) (Nat.not_lt.mpr (Nat.le_of_lt sIC))
      · exact nCm (by rw [hm]; exact h')
  · unfold Zout
    split
    · rfl
    · exact x.rel.zfoot C hCx
  · obtain ⟨m, hn, _⟩ := x.rel.ns
    exact ⟨m, hn.at' fun o' e' => hkI C o' (Nat.ne_of_gt sIC) e'⟩
end
end Mine
end
section
open PySem PySem.Spec PySem.Calls PyProof.Rows PySem.W
namespace Mine

/-- the first list says less than the second one -/
inductive Wk : List (Str × Option V) → List (Str × Option V) → Prop
  | nil : Wk [] []
  | same {p l l'} : Wk l l' → Wk (p :: l) (p :: l')
  | forget {x u l l'} : Wk l l' → Wk ((x, none) :: l) ((x, u) :: l')
theorem Wk.refl : ∀ l, Wk l l
  | [] => .nil
  | _ :: l => .same (Wk.refl l)
theorem Wk.keys {l l'} (h : Wk l l') : l'.map (·.1) = l.map (·.1) := by
  induction h with
  | nil => rfl
  | same _ ih => simp [ih]
  | forget _ ih => simp [ih]
theorem Wk.mem {l l'} (h : Wk l l') : ∀ x ov, (x, ov) ∈ l → ov = none ∧ (∃ u, (x, u) ∈ l') ∨ (x, ov) ∈ l' := by
  induction h with
  | nil => intro x ov h; cases h
  | same _ ih =>
    intro x ov hm
    rcases List.mem_cons.mp hm with h | h
    · exact .inr (h ▸ .head _)
    · rcases ih x ov h with ⟨h, u, hu⟩ | h
      · exact .inl ⟨h, u, .tail _ hu⟩
      · exact .inr (.tail _ h)
  | forget _ ih =>
    intro x ov hm
    rcases List.mem_cons.mp hm with h | h
    · cases h; exact .inl ⟨rfl, _, .head _⟩
    · rcases ih x ov h with ⟨h, u, hu⟩ | h
      · exact .inl ⟨h, u, .tail _ hu⟩
      · exact .inr (.tail _ h)
theorem Wk.trans {l l' l''} (h : Wk l l') (h' : Wk l' l'') : Wk l l'' := by
  induction h generalizing l'' with
  | nil => exact h'
  | same _ ih =>
    cases h' with
    | same h2 => exact .same (ih h2)
    | forget h2 => exact .forget (ih h2)
  | forget _ ih =>
    cases h' with
    | same h2 => exact .forget (ih h2)
    | forget h2 => exact .forget (ih h2)

/-- the state is σ₀ again but for the ledger; what it says of names more is forgotten -/
noncomputable def Back (σ₀ : St) (mem : List (Addr × Cell)) (σ' : St) : Prop := Wk σ₀.loc σ'.loc ∧ Wk σ₀.cel σ'.cel ∧ σ'.cap = σ₀.cap ∧ σ'.mem = mem
theorem Back.trans {σ₀ σ₁ σ' : St} {m m' : List (Addr × Cell)} (h : Back σ₀ m σ₁) (h' : Back σ₁ m' σ') : Back σ₀ m' σ' := ⟨h.1.trans h'.1, h.2.1.trans h'.2.1, h'.2.2.1.trans h.2.2.1, h'.2.2.2⟩
theorem Back.refl (σ₀ : St) : Back σ₀ σ₀.mem σ₀ := ⟨Wk.refl _, Wk.refl _, rfl, rfl⟩

section
variable {X : Cx} {σ σ' σ'' : St} {Z Z' Z'' : ZM} {s s' s'' : Shared} {P : V → St → Prop}

theorem Rel.forget {σ₀ : St} (r : Rel X σ Z s) (h : Back σ₀ σ₀.mem σ) : Rel X σ₀ Z s := by
  obtain ⟨hl, hc, hp, hm⟩ := h
  have ft : foot X σ₀ = foot X σ := by unfold foot; rw [hm]
  refine ⟨⟨by rw [← hl.keys]; exact r.fr.lnd, fun p hp' => ?_, fun p hp' => ?_, by rw [← hc.keys]; exact r.fr.cnd, by rw [← hc.keys]; exact r.fr.cinj, by rw [← hp]; exact r.fr.pk, by rw [← hl.keys, ← hc.keys, ← hp]; exact r.fr.dbg, r.fr.kind⟩, r.zin, r.st, r.ztab, r.old, r.os, r.gens, ?_, fun x ov hx => ?_, by rw [← hp]; exact r.cap, r.ownc, by rw [← hm]; exact r.mem, by rw [ft]; exact r.nd, by rw [ft]; exact r.zfoot, by rw [ft]; exact r.bfoot, by rw [ft]; exact r.ex, r.g3, by rw [← hm]; exact r.low⟩
  · obtain ⟨x, ov⟩ := p
    rcases hl.mem x ov hp' with ⟨_, u, hu⟩ | h
    · exact r.fr.lk (x, u) hu
    · exact r.fr.lk _ h
  · obtain ⟨x, ov⟩ := p
    rcases hc.mem x ov hp' with ⟨_, u, hu⟩ | h
    · exact r.fr.ck (x, u) hu
    · exact r.fr.ck _ h
  · obtain ⟨m, hn, hv⟩ := r.ns
    refine ⟨m, hn, fun x ov hx => ?_⟩
    rcases hl.mem x ov hx with ⟨rfl, _⟩ | h
    · trivial
    · exact hv x ov h
  · rcases hc.mem x ov hx with ⟨rfl, u, hu⟩ | h
    · obtain ⟨c, uo, hw, hcc, hv, _⟩ := r.cells x u hu
      exact ⟨c, uo, hw, hcc, hv, trivial⟩
    · exact r.cells x ov h
theorem Ext.of_forget {σ₀ : St} (h : Back σ₀ σ₀.mem σ) (x : Ext X σ₀ Z s σ' Z' s') : Ext X σ Z s σ' Z' s' := by
  have ft : foot X σ₀ = foot X σ := by unfold foot; rw [h.2.2.2]
  have km : keys σ₀.mem = keys σ.mem := by rw [h.2.2.2]
  exact ⟨x.rel, x.le, by rw [← ft]; exact x.keep, by rw [← km]; exact x.new, by rw [← km]; exact x.znew⟩
theorem AS.forget {t d} {Q : St → Prop} {σ₀ : St} (hb : Back σ₀ σ₀.mem σ) (h : AS X t d σ₀ Q) : AS X t d σ Q := fun Z s v r hv =>
  wpAny_mono (h Z s v (r.forget hb) hv) (fun _ _ q => by obtain ⟨Z', σ', b, x, q⟩ := q; exact ⟨Z', σ', b, x.of_forget hb, q⟩) fun _ _ h => h
theorem J.post {α β : Type} {R : ZM → β → α → Prop} {t : Sem α} {Q Q' : β → St → Prop} (h : J X R t σ Q) (k : ∀ b σ', Q b σ' → Q' b σ') : J X R t σ Q' := h.mono k
theorem AS.post {t d} {Q Q' : St → Prop} (h : AS X t d σ Q) (k : ∀ σ', Q σ' → Q' σ') : AS X t d σ Q' := fun Z s v r hv =>
  wpAny_mono (h Z s v r hv) (fun _ _ q => by obtain ⟨Z', σ', b, x, e, q⟩ := q; exact ⟨Z', σ', b, x, e, k _ q⟩) fun _ _ h => h
theorem IN.post {e k acc} {Q Q' : St → Prop} (h : IN X e k acc σ Q) (kq : ∀ σ', Q σ' → Q' σ') : IN X e k acc σ Q' := fun Z s K R r hK => h Z s K R r fun Z' σ' s' x hq => hK Z' σ' s' x (kq _ hq)

/-- what one item does -/
noncomputable def TURN (X : Cx) (e : PySem.Expr) (k : Nat) (target : PySem.Expr) (ifs : List PySem.Expr) (D : Addr) (σ₀ : St) (m : List (Addr × Cell)) (c : Cell) (m' : List (Addr × Cell)) (c' : Cell) (d : V) : Prop :=
  AS X target d { σ₀ with mem := m ++ [(D, c)] } fun σ2 => TS X ifs σ2 fun ok σ3 => if ok then IN X e k (.ref D) σ3 (Back σ₀ (m' ++ [(D, c')])) else Back σ₀ (m' ++ [(D, c')]) σ3

theorem UpM.last {D : Addr} {c c' : Cell} : ∀ (m : List (Addr × Cell)), UpM D c' (m ++ [(D, c)]) (m ++ [(D, c')])
  | [] => .head
  | _ :: m => .tail (UpM.last m)

theorem IN.one {elt gens scope pos k} {D : Addr} {m l F} {σ₀ : St} (hg : gens[k + 1]? = none) (hl : l.length ≤ sizeLine)
    (h : EV X elt σ fun d σ1 => d = F ∧ Back σ₀ (m ++ [(D, Cell.list l)]) σ1) : IN X (.ListComp elt gens scope pos) k (.ref D) σ (Back σ₀ (m ++ [(D, .list (l ++ [F]))])) :=
  IN.append hg (J.post h fun d σ1 hh0 => by
    obtain ⟨hd, hb⟩ := hh0
    subst hd
    obtain ⟨h1, h2, h3, h4⟩ := hb
    exact ⟨l, by rw [h4]; simp, hl, m ++ [(D, .list (l ++ [d]))], by rw [h4]; exact UpM.last m, h1, h2, h3, rfl⟩)

/-- a clause within: its items one by one -/
theorem IN.clause {e : PySem.Expr} (hc : isComp e = true) (has : ∀ g ∈ clausesOf e, g.is_async = 0) {k : Nat} {target iter : PySem.Expr} {ifs : List PySem.Expr} {D : Addr} {σ₀ σ₁ : St} (hg : (clausesOf e)[k + 1]? = some ⟨target, iter, ifs, 0⟩)
    (ms : Nat → List (Addr × Cell)) (cs : Nat → Cell) (its : List V)
    (h : EV X iter σ fun d σ1 => ITERC X target σ1 d its ∧ Back σ₁ (ms 0 ++ [(D, cs 0)]) σ1)
    (turn : ∀ i d, its[i]? = some d → TURN X e (k + 1) target ifs D σ₁ (ms i) (cs i) (ms (i + 1)) (cs (i + 1)) d)
    (fin : ∀ σ', Back σ₁ (ms its.length ++ [(D, cs its.length)]) σ' → Back σ₀ (ms its.length ++ [(D, cs its.length)]) σ')
    (hs : ∀ env x, foldedSetIterable iter env x = pure x := by intro _ _; rfl) : IN X e k (.ref D) σ (Back σ₀ (ms its.length ++ [(D, cs its.length)])) := by
  refine IN.more hc has hg (J.post h fun d σ1 ⟨hit, hb⟩ => ⟨its, hit, fun i => Back σ₁ (ms i ++ [(D, cs i)]), hb, fun i di σ2 hdi hb2 => ?_, fin⟩) hs
  have hb' : Back { σ₁ with mem := ms i ++ [(D, cs i)] } ({ σ₁ with mem := ms i ++ [(D, cs i)] } : St).mem σ2 := hb2
  exact AS.forget hb' (turn i di hdi)
noncomputable def frozen : Cell → V
  | .list l => .list l
  | .sdict ks l => .sdict ks l
  | .idict ks l => .idict ks l
  | .ns _ => .none
  | .raw _ => .none
noncomputable def Cell.isV : Cell → Bool
  | .ns _ => false
  | .raw _ => false
  | _ => true
theorem cell_frozen' {Z : ZM} {D : Addr} {c : Cell} {prog : Program} {w : World} {h : Heap} {ob : Obj} (hz : Z D = some ob) (ho : h.get? D = some ob) (lo : 3 < D) (hc : CellRel prog w Z h D c) (hn : c.isV = true) : VRel prog w Z (frozen c) (.ref D) := by
  cases c with
  | list l => obtain ⟨its, ⟨n, e⟩, hr⟩ := hc; exact ⟨D, its, n, rfl, hz.trans (ho.symm.trans e), hr⟩
  | sdict ks l => obtain ⟨vs, ⟨o, es, ep, e, q⟩, hl, hr⟩ := hc; exact ⟨D, vs, rfl, lo, ⟨_, es, ep, hz.trans (ho.symm.trans e), q⟩, hl, hr⟩
  | idict ks l => obtain ⟨vs, ⟨o, es, ep, e, q⟩, hl, hr⟩ := hc; exact ⟨D, vs, rfl, lo, ⟨_, es, ep, hz.trans (ho.symm.trans e), q⟩, hl, hr⟩
  | ns l => exact Bool.noConfusion hn
  | raw p => exact Bool.noConfusion hn

noncomputable def freeOk (names : List (Str × NameKind)) (ck pk : List Str) : Bool := names.all fun p => !(p.2 == .free) || ck.contains p.1 || pk.contains p.1

/-- what the first iterable of a comprehension hands over -/
inductive LCG (X : Cx) (target : PySem.Expr) (scope : Scope) (e : PySem.Expr) (ifs : List PySem.Expr) (c0 : Cell) (R : List (Addr × Cell) → Cell → St → Prop) (d : V) (σ1 : St) : Prop
  | mk (its : List V) (locc celc : List (Str × Option V)) (capc : List (Str × V)) (hit : ITERC X target σ1 d its) (hL : ScL σ1.cel σ1.cap scope.names locc celc capc)
    (ms : Nat → List (Addr × Cell)) (cs : Nat → Cell) (h0 : ms 0 = σ1.mem) (h1 : cs 0 = c0)
    (turn : ∀ C D i di, its[i]? = some di → TURN (X.comp scope C) e 0 target ifs D ⟨locc, celc, capc, []⟩ (ms i) (cs i) (ms (i + 1)) (cs (i + 1)) di)
    (fin : R (ms its.length) (cs its.length) σ1)
/-- its end: the cell frozen -/
noncomputable def LCE (P : V → St → Prop) (m : List (Addr × Cell)) (c : Cell) (σ1 : St) : Prop := c.isV = true ∧ P (frozen c) { σ1 with mem := m }
/-- its end: the cell stays in the ledger -/
noncomputable def LCX (P : V → St → Prop) (m : List (Addr × Cell)) (c : Cell) (σ1 : St) : Prop := ∀ D, P (.ref D) { σ1 with mem := m ++ [(D, c)] }
theorem wp_compM {e : PySem.Expr} (hc : isComp e = true) {target iter : PySem.Expr} {ifs : List PySem.Expr} {gs : List Comprehension} (hcl : clausesOf e = ⟨target, iter, ifs, 0⟩ :: gs) (has : ∀ g ∈ gs, g.is_async = 0)
    {scope : Scope} {pos : Pos} (hok : scopeOkC scope.names = true) (hk : scope.kind = .function) {oa : Obj} (hoa : oa.isFreed = false) {c0 : Cell} (hc0 : ∀ Z h a, h.get? a = some oa → CellRel X.prog X.w Z h a c0)
    {newAcc : Sem Value} (hacc : ∀ (s : Shared) (Q : Value → Shared → Prop), Q (.ref s.heap.objs.size) { s with heap := s.heap.push oa } → wpAny (model X.prog X.w) X.A newAcc Q Nope s)
    {Q : V → St → Prop} (r : Rel X σ Z s)
    (h : EV X iter σ (LCG X target scope e ifs c0 (LCX Q)))
    (hs : ∀ x, foldedSetIterable iter X.env x = pure x) (hfk : freeOk scope.names (σ.cel.map (·.1)) (σ.cap.map (·.1)) = true)
    {use : Option (Value → Sem Unit)} {R : Value → Shared → Prop}
    (fin : ∀ d v C σ1 Z1 s1 σ' Z' s', Ext X σ Z s σ1 Z1 s1 → Ext X σ1 Z1 s1 σ' Z' s' → VRel X.prog X.w Z' d v → Q d σ' → C ∉ foot X σ' → Z' C = none → s1.heap.get? C = none → (∃ m, s'.heap.Ns C m) → compPost (model X.prog X.w) X.A Nope use R v C (.ok .next) s') :
    wpAny (model X.prog X.w) X.A (comprehension e scope X.env pos newAcc false (eval iter X.env) use) R Nope s := by
  have okc := hok
  simp only [scopeOkC, Bool.and_eq_true, decide_eq_true_eq, List.all_eq_true, Bool.not_eq_true'] at okc
  have hfree : ∀ x ∈ scope.names, x.2 = .free → (X.env.cells.lookup x.1).isSome = true := fun x hx hf => by
    have := List.all_eq_true.mp hfk x hx
    simp only [hf, beq_self_eq_true, Bool.not_true, Bool.false_or, Bool.or_eq_true, List.contains_iff_mem, List.mem_map] at this
    rcases this with ⟨p, hp, e⟩ | ⟨p, hp, e⟩
    · obtain ⟨c, _, _, hcc, _⟩ := r.cells p.1 p.2 hp; rw [← e, hcc]; rfl
    · obtain ⟨c, _, _, hcc, _⟩ := r.cap p.1 p.2 hp; rw [← e, hcc]; rfl
  · refine wpAny_comprehension_free hcl hs (closureFor_eq hfree) hk (fun x hx hl => by rw [← hl]; exact lookup_of_mem okc.1 hx) ?_
    refine J.use h r fun Z1 s1 σ1 d v x1 r1 h1 => ?_
    obtain ⟨its, locc, celc, capc, hit, hL, ms, cs, hm0, hc0', turn, hQ⟩ := h1
    refine hit Z1 s1 v _ x1.rel r1 fun o S hof it hself st0 => ?_
    refine hacc _ _ ?_
    refine wpAny_compEnv ?_
    refine comp_bodyM (D := (s1.heap.push o).objs.size) (C := ((s1.heap.push o).push oa).objs.size) hc hcl has hok hk hoa hof x1.rel it hself st0 hc0 hL (P := fun c σ' => c = cs its.length ∧ σ' = { σ1 with mem := ms its.length }) (fun C D => ⟨fun i => Back ⟨locc, celc, capc, []⟩ (ms i ++ [(D, cs i)]), ⟨Wk.refl _, Wk.refl _, rfl, by rw [hm0, hc0']⟩, fun i di σ2 hdi hb => ?_, fun σ2 hb => ⟨cs its.length, ms its.length, [], hb.2.2.2, rfl, rfl, by simp⟩⟩) rfl rfl ?_
    · have hb' : Back { (⟨locc, celc, capc, []⟩ : St) with mem := ms i ++ [(D, cs i)] } ({ (⟨locc, celc, capc, []⟩ : St) with mem := ms i ++ [(D, cs i)] } : St).mem σ2 := hb
      exact AS.forget hb' (turn C D i di hdi)
    · rintro c m1 m2 Z' s' x2 ⟨rfl, hP⟩ rfl hCf hCz hCn
      have e : m1 = ms its.length := by have := congrArg St.mem hP; simpa using this
      subst e
      exact fin _ _ _ _ _ _ _ _ _ x1 x2 (vr_ref (a := (s1.heap.push o).objs.size)) (hQ _) hCf hCz (Heap.get?_none_of_le (by simp only [Heap.size_push]; omega)) hCn
/-- a comprehension, its accumulator a new object oa -/
theorem wp_comp {e : PySem.Expr} (hc : isComp e = true) {target iter : PySem.Expr} {ifs : List PySem.Expr} {gs : List Comprehension} (hcl : clausesOf e = ⟨target, iter, ifs, 0⟩ :: gs) (has : ∀ g ∈ gs, g.is_async = 0)
    {scope : Scope} {pos : Pos} (hok : scopeOkC scope.names = true) (hk : scope.kind = .function) {oa : Obj} (hoa : oa.isFreed = false) {c0 : Cell} (hc0 : ∀ Z h a, h.get? a = some oa → CellRel X.prog X.w Z h a c0)
    {newAcc : Sem Value} (hacc : ∀ (s : Shared) (Q : Value → Shared → Prop), Q (.ref s.heap.objs.size) { s with heap := s.heap.push oa } → wpAny (model X.prog X.w) X.A newAcc Q Nope s)
    {Q : V → St → Prop} (r : Rel X σ Z s)
    (h : EV X iter σ (LCG X target scope e ifs c0 (LCE Q)))
    (hs : ∀ x, foldedSetIterable iter X.env x = pure x) (hfk : freeOk scope.names (σ.cel.map (·.1)) (σ.cap.map (·.1)) = true)
    {use : Option (Value → Sem Unit)} {R : Value → Shared → Prop}
    (fin : ∀ d v C σ1 Z1 s1 σ' Z' s', Ext X σ Z s σ1 Z1 s1 → Ext X σ1 Z1 s1 σ' Z' s' → VRel X.prog X.w Z' d v → Q d σ' → C ∉ foot X σ' → Z' C = none → s1.heap.get? C = none → (∃ m, s'.heap.Ns C m) → compPost (model X.prog X.w) X.A Nope use R v C (.ok .next) s') :
    wpAny (model X.prog X.w) X.A (comprehension e scope X.env pos newAcc false (eval iter X.env) use) R Nope s := by
  refine wp_compM (Q := fun d σ' => ∃ D m c, d = .ref D ∧ σ'.mem = m ++ [(D, c)] ∧ c.isV = true ∧ Q (frozen c) { σ' with mem := m }) hc hcl has hok hk hoa hc0 hacc r (J.mono h fun d σ1 h => ?_) hs hfk fun d v C σ1 Z1 s1 σ' Z' s' x1 x2 hv hq hCf hCz hCn hn => ?_
  · cases h with
    | mk its locc celc capc hit hL ms cs h0 h1 turn fin => exact .mk its locc celc capc hit hL ms cs h0 h1 turn fun D => ⟨D, _, _, rfl, rfl, fin.1, fin.2⟩
  · obtain ⟨D, m, c, rfl, hm, hcv, hQ⟩ := hq
    cases (show v = .ref D from hv)
    have hin : (D, c) ∈ σ'.mem := by rw [hm]; exact List.mem_append_right _ List.mem_cons_self
    obtain ⟨o, ho⟩ := x2.rel.ex D (x2.rel.nonempty hin)
    obtain ⟨y, hle⟩ := x2.freeze (D := D) (c := c) (m1 := m) (m2 := []) hm ho
    rw [List.append_nil] at y
    have hcell : CellRel X.prog X.w (Zput Z' D o) s'.heap D c := (x2.rel.mem _ hin).mono hle fun o h => h
    have hlow : 3 < D := x2.rel.low D (List.mem_map.mpr ⟨_, hin, rfl⟩)
    have hDf : D ∈ foot X σ' := x2.rel.nonempty hin
    refine fin _ _ C σ1 Z1 s1 _ _ s' x1 y (cell_frozen' Zput.self ho hlow hcell hcv) hQ (fun hf => hCf ?_) ?_ hCn hn
    · unfold foot at hf ⊢
      rcases List.mem_cons.mp hf with h | h
      · exact h ▸ List.mem_cons_self
      · rcases List.mem_append.mp h with h | h
        · exact List.mem_cons_of_mem _ (List.mem_append_left _ h)
        · refine List.mem_cons_of_mem _ (List.mem_append_right _ ?_)
          rw [hm, show keys (m ++ [(D, c)]) = keys m ++ [D] from List.map_append]
          exact List.mem_append_left _ h
    · unfold Zput
      rw [if_neg (fun e : C = D => hCf (by rw [e]; exact hDf))]; exact hCz

theorem comp_fin {Q : V → St → Prop} {d : V} {v : Value} {C : Addr} {σ1 : St} {Z1 : ZM} {s1 : Shared} (r1 : Rel X σ1 Z1 s1) (x2 : Ext X σ1 Z1 s1 σ' Z' s') (hCf : C ∉ foot X σ') (hCz : Z' C = none) (hCn : s1.heap.get? C = none) {h' : Heap} (hs : Heap.SameBut C s'.heap h') :
    Ext X σ1 Z1 s1 σ' Z' { s' with heap := h' } :=
  Ext.butI (tk := s'.toks) r1 x2 hCn hCf (fun a o hne e => (hs.2 a hne).trans e) (fun _ _ h => h) (fun a o e => (hs.2 a (fun h => by rw [h, hCz] at e; cases e)).trans (x2.rel.zin _ _ e)) fun _ _ h => .inl h

/-- [.. for .. in ..] -/
theorem EV.lcg {elt target iter : PySem.Expr} {ifs : List PySem.Expr} {gs : List Comprehension} {scope : Scope} {pos : Pos}
    (h : EV X iter σ (LCG X target scope (.ListComp elt (⟨target, iter, ifs, 0⟩ :: gs) scope pos) ifs (.list []) (LCE P)))
    (has : ∀ g ∈ gs, g.is_async = 0) (hok : scopeOkC scope.names = true) (hfk : freeOk scope.names (σ.cel.map (·.1)) (σ.cap.map (·.1)) = true) (hk : scope.kind = .function) (hs : ∀ x, foldedSetIterable iter X.env x = pure x) :
    EV X (.ListComp elt (⟨target, iter, ifs, 0⟩ :: gs) scope pos) σ P := fun Z s r => by
  rw [eval_ListComp]
  refine wp_comp (oa := { cls := .type "list", data := .seq #[] }) (c0 := .list []) (use := Option.none) rfl rfl has hok hk rfl (fun Z h a e => ⟨#[], ⟨0, e⟩, rfl⟩) (fun s Q h => wpAny_newList (items := []) h (Nat.zero_le _)) r h hs hfk ?_
  intro d v C σ1 Z1 s1 σ' Z' s' x1 x2 hv hq hCf hCz hCn ⟨m, hn⟩
  exact ⟨m, hn, fun h' hs' => here (x1.trans (comp_fin (Q := P) (d := d) (v := v) x1.rel x2 hCf hCz hCn hs')) hv hq⟩
/-- {.. : .. for .. in ..} -/
theorem EV.dcg {kx vx target iter : PySem.Expr} {ifs : List PySem.Expr} {gs : List Comprehension} {scope : Scope} {pos : Pos} {c0 : Cell} (hc0 : c0 = .sdict [] [] ∨ c0 = .idict [] [])
    (h : EV X iter σ (LCG X target scope (.DictComp kx vx (⟨target, iter, ifs, 0⟩ :: gs) scope pos) ifs c0 (LCE P)))
    (has : ∀ g ∈ gs, g.is_async = 0) (hok : scopeOkC scope.names = true) (hfk : freeOk scope.names (σ.cel.map (·.1)) (σ.cap.map (·.1)) = true) (hk : scope.kind = .function) (hs : ∀ x, foldedSetIterable iter X.env x = pure x) :
    EV X (.DictComp kx vx (⟨target, iter, ifs, 0⟩ :: gs) scope pos) σ P := fun Z s r => by
  show wpAny _ _ (comprehension (.DictComp kx vx (⟨target, iter, ifs, 0⟩ :: gs) scope pos) scope X.env iter.pos newDict false (eval iter X.env)) _ _ s
  refine wp_comp (oa := { cls := .type "dict", data := .dict #[] }) (c0 := c0) (use := Option.none) rfl rfl has hok hk rfl (fun Z h a e => ?_) (fun s Q h => wpAny_newObj_type h (by exact Nat.zero_le _)) r h hs hfk ?_
  · have hd : ∀ {K : Type} [DecidableEq K] (knd : KeyKind X.prog X.w K), h.DictOf knd a [] := fun knd => ⟨_, #[], 0, e, ⟨rfl, rfl, rfl⟩, rfl, fun _ he => by simp at he, .nil, List.nodup_nil⟩
    rcases hc0 with rfl | rfl
    · exact ⟨[], hd _, rfl, rfl⟩
    · exact ⟨[], hd _, rfl, rfl⟩
  · intro d v C σ1 Z1 s1 σ' Z' s' x1 x2 hv hq hCf hCz hCn ⟨m, hn⟩
    exact ⟨m, hn, fun h' hs' => here (x1.trans (comp_fin (Q := P) (d := d) (v := v) x1.rel x2 hCf hCz hCn hs')) hv hq⟩
end
end Mine
end
section
open PySem PySem.Spec PySem.Calls PyProof.Rows PySem.W
namespace Mine
section
variable {X : Cx} {σ σ' : St} {Z Z' : ZM} {s s' : Shared} {P : V → St → Prop}

theorem vs1 {ds : V} {vs : List Value} (h : VsRel X.prog X.w Z [ds] vs) : ∃ v, vs = [v] ∧ VRel X.prog X.w Z ds v := by
  obtain ⟨v, r, rfl, hv, hr⟩ := h; cases hr; exact ⟨v, rfl, hv⟩
theorem vs2 {d1 d2 : V} {vs : List Value} (h : VsRel X.prog X.w Z [d1, d2] vs) : ∃ v u, vs = [v, u] ∧ VRel X.prog X.w Z d1 v ∧ VRel X.prog X.w Z d2 u := by
  obtain ⟨v, r, rfl, hv, u, r', rfl, hu, hr⟩ := h; cases hr; exact ⟨v, u, rfl, hv, hu⟩
theorem vr_int' {prog w Z i j t} (h : i = j) : VRel prog w Z (.int i) (.int j t) := h ▸ vr_int
theorem vr_rng {prog w Z a b r t u x} (h : Z r = some { cls := .type "range", data := .fields #[.int a t, .int b u, .int 1 x] }) : VRel prog w Z (.rng a b) (.ref r) := ⟨_, _, _, _, rfl, h⟩
theorem hereV {d : V} {v : Value} (x : Ext X σ Z s σ' Z' s') (hr : VRel X.prog X.w Z' d v) (h : P d σ') : Post X (RV X) σ Z s P v s' := ⟨_, _, _, x, hr, h⟩
/-! len -/
theorem CALL.lenL {l : List V} (hs : l.length ≤ sizeLine) (h : P (.int l.length) σ) : CALL X (.builtin "len") [.list l] σ P := fun Z s vs r hvs => by
  obtain ⟨v, rfl, a, its, n, rfl, z, hr⟩ := vs1 hvs
  have hl : its.size = l.length := by rw [← hr.length]; simp
  exact call_len_list (r.plist z).isList (by unfold sizeLine at hs; omega) (hereV (Ext.refl r).toks (vr_int' (by rw [hl])) h)
theorem CALL.lenID {ks : List Int} {l : List V} (hs : ks.length ≤ sizeLine) (h : P (.int ks.length) σ) : CALL X (.builtin "len") [.idict ks l] σ P := fun Z s vs r hvs => by
  obtain ⟨v, rfl, a, us, rfl, lo, z, hl, hr⟩ := vs1 hvs
  have hk : (ks.zip us).length = ks.length := by simp [hl]
  exact call_len_dict (no_sys lo) (r.pdict z) (by unfold sizeLine at hs; omega) (hereV (Ext.refl r).toks (vr_int' (by rw [hk])) h)

/-! range -/
theorem CALL.range {n : Int} (h : P (.rng 0 n) σ) : CALL X (.type "range") [.int n] σ P := fun Z s vs r hvs => by
  obtain ⟨v, rfl, t, rfl⟩ := vs1 hvs
  refine call_range_1 ?_
  obtain ⟨x, _⟩ := (Ext.refl r).pushZ { cls := .type "range", data := .fields #[.int 0 s.toks, .int n t, .int 1 (s.toks + 1)] }
  exact hereV x.toks (vr_rng Zput.self) h

/-! sum of ints -/
theorem preSum_list {l : List Int} {f : Nat → Int} (hf : ∀ j, j < l.length → f j = l.getD j 0) : ∀ j ≤ l.length, preSum f j = (l.take j).sum
  | 0, _ => by simp [preSum]
  | j + 1, hj => by
    rw [preSum, preSum_list hf j (by omega), hf j (by omega)]
    have hl : j < l.length := by omega
    rw [List.take_succ_eq_append_getElem hl, List.sum_append]
    simp [List.getD, List.getElem?_eq_getElem hl]
theorem VsRel.ints {Z : ZM} : ∀ {l : List Int} {vs : List Value}, VsRel X.prog X.w Z (l.map V.int) vs → ∃ xs : List (Int × Tok), vs = xs.map (fun p => .int p.1 p.2) ∧ xs.map (·.1) = l
  | [], _, h => by cases h; exact ⟨[], rfl, rfl⟩
  | i :: l, _, ⟨v, r, e, ⟨t, ht⟩, q⟩ => by
    subst e; subst ht
    obtain ⟨xs, rfl, rfl⟩ := VsRel.ints q
    exact ⟨(i, t) :: xs, rfl, rfl⟩
theorem sum_bound {B : Int} (hB : 0 ≤ B) : ∀ (l : List Int), (∀ i ∈ l, -B ≤ i ∧ i ≤ B) → -(l.length * B) ≤ l.sum ∧ l.sum ≤ l.length * B
  | [], _ => by simp
  | a :: l, h => by
    have := sum_bound hB l fun i hi => h i (.tail _ hi)
    have ha := h a (.head _)
    have e : ((a :: l).length : Int) * B = l.length * B + B := by push_cast [List.length_cons]; rw [Int.add_mul, Int.one_mul]
    rw [List.sum_cons, e]; omega
theorem CALL.sum {l : List Int} (hA : X.A.handled = none) (hs : l.length ≤ 1000) (hb : ∀ i ∈ l, -(2 ^ 40) ≤ i ∧ i ≤ 2 ^ 40) (h : P (.int l.sum) σ) : CALL X (.builtin "sum") [.list (l.map V.int)] σ P := fun Z s vs r hvs => by
  obtain ⟨v, rfl, a, its, n, rfl, z, hr⟩ := vs1 hvs
  obtain ⟨xs, hx, rfl⟩ := VsRel.ints hr
  have hi : its = intItems xs.toArray := by rw [← Array.toArray_toList (xs := its), hx]; simp [intItems]
  have hf : ∀ j, j < (xs.map (·.1)).length → numAt xs.toArray j = (xs.map (·.1)).getD j 0 := fun j hj => by
    simp at hj
    simp [numAt, hj]
  refine sum_intList hA (xs := xs.toArray) (hi ▸ (r.plist z).isList) (fun j hj => ?_) fun h' tk t' hk => ?_
  · simp at hj
    have e := preSum_list hf (j + 1) (by simp; omega)
    have hn : numAt xs.toArray j ∈ xs.map (·.1) := by 
      have hj' : j < (xs.map (·.1)).length := by simpa using hj
      rw [hf j hj', List.getD_eq_getElem?_getD, List.getElem?_eq_getElem hj']; exact List.getElem_mem hj'
    have b1 := hb _ hn
    have b2 := sum_bound (B := 2 ^ 40) (by decide) ((xs.map (·.1)).take (j + 1)) fun i hi => hb i (List.mem_of_mem_take hi)
    have b3 : ((xs.map (·.1)).take (j + 1)).length ≤ 1000 := Nat.le_trans (by rw [List.length_take]; omega) hs
    rw [← e] at b2
    unfold InLong
    constructor
    · omega
    · constructor <;> · have : (((xs.map (·.1)).take (j + 1)).length : Int) ≤ 1000 := by exact_mod_cast b3
                        omega
  · have e := preSum_list hf xs.length (by simp)
    rw [List.take_of_length_le (by simp)] at e
    exact hereV (Ext.keepAll r hk) (vr_int' (by rw [← e]; simp)) h
end
end Mine
end
section
open PySem PySem.Spec PySem.Calls PyProof.Rows PySem.W PySem.SeqAt
namespace Mine
section
variable {X : Cx} {σ σ' : St} {Z Z' : ZM} {s s' : Shared} {P : V → St → Prop}

/-! equality of data -/
noncomputable def allO : List (Option Bool) → Option Bool
  | [] => some true
  | x :: l => match x, allO l with
    | some a, some b => some (a && b)
    | _, _ => none
noncomputable def veq : Nat → V → V → Option Bool
  | 0, _, _ => none
  | n + 1, d, e => match d with
    | .none => match e with
      | .none => some true
      | _ => none
    | .bool a => match e with
      | .bool b => some (a == b)
      | _ => none
    | .int a => match e with
      | .int b => some (a == b)
      | _ => none
    | .str a => match e with
      | .str b => some (a == b)
      | _ => none
    | .tup l => match e with
      | .tup l' => (allO (List.zipWith (veq n) l l')).map fun b => b && l.length == l'.length
      | _ => none
    | .list l => match e with
      | .list l' => if l.length == l'.length then allO (List.zipWith (veq n) l l') else some false
      | _ => none
    | _ => none
inductive VeqI (n : Nat) : V → V → Bool → Prop
  | none : VeqI n .none .none true
  | bool (a b) : VeqI n (.bool a) (.bool b) (a == b)
  | int (a b) : VeqI n (.int a) (.int b) (a == b)
  | str (a b) : VeqI n (.str a) (.str b) (a == b)
  | tup (l l' c) (h : allO (List.zipWith (veq n) l l') = some c) : VeqI n (.tup l) (.tup l') (c && l.length == l'.length)
  | list (l l' b) (h : (if l.length == l'.length then allO (List.zipWith (veq n) l l') else some false) = some b) : VeqI n (.list l) (.list l') b
theorem noneSome {α : Type} {b : α} {p : Prop} (h : Option.none = some b) : p := nomatch h
theorem veq_inv {n : Nat} {d e : V} {b : Bool} (h : veq (n + 1) d e = some b) : VeqI n d e b := by
  cases d with
  | none => cases e with
    | none => rw [← Option.some.inj h]; exact .none
    | _ => exact noneSome h
  | bool a => cases e with
    | bool c => rw [← Option.some.inj h]; exact .bool ..
    | _ => exact noneSome h
  | int a => cases e with
    | int c => rw [← Option.some.inj h]; exact .int ..
    | _ => exact noneSome h
  | str a => cases e with
    | str c => rw [← Option.some.inj h]; exact .str ..
    | _ => exact noneSome h
  | tup l => cases e with
    | tup l' => obtain ⟨c, hc, rfl⟩ := Option.map_eq_some_iff.mp h; exact .tup _ _ _ hc
    | _ => exact noneSome h
  | list l => cases e with
    | list l' => exact .list _ _ _ h
    | _ => exact noneSome h
  | _ => exact noneSome h

theorem allO_spec : ∀ {l : List (Option Bool)} {b : Bool}, allO l = some b → (∀ (i : Nat) (h : i < l.length), l[i] = some ((l[i]?.getD (some true)).getD true)) ∧ b = (List.range l.length).all fun i => (l[i]?.getD (some true)).getD true
  | [], b, h => by cases h; simp
  | x :: l, b, h => by
    cases x with
    | none => simp [allO] at h
    | some a =>
      cases hc : allO l with
      | none => simp [allO, hc] at h
      | some c =>
        simp only [allO, hc, Option.some.injEq] at h
        subst h
        obtain ⟨h1, h2⟩ := allO_spec hc
        refine ⟨fun i hi => ?_, ?_⟩
        · cases i with
          | zero => simp
          | succ i => have := h1 i (by simpa using hi); simpa using this
        · rw [List.length_cons, List.range_succ_eq_map, List.all_cons, List.all_map, h2]
          simp [Function.comp_def]

theorem VsRel.at (h : VsRel X.prog X.w Z l vs) (i : Nat) (hi : i < l.length) (hi' : i < vs.length) : VRel X.prog X.w Z l[i] vs[i] := by
  obtain ⟨v, hv, hr⟩ := h.get (List.getElem?_eq_getElem hi)
  rw [List.getElem?_eq_getElem hi'] at hv; cases hv; exact hr

theorem veq_same : ∀ n d e b v, veq n d e = some b → VRel X.prog X.w Z d v → VRel X.prog X.w Z e v → b = true := by
  intro n
  induction n with
  | zero => intro d e b v h; exact noneSome h
  | succ n ih =>
    have seq : ∀ l l' vs b, allO (List.zipWith (veq n) l l') = some b → VsRel X.prog X.w Z l vs → VsRel X.prog X.w Z l' vs → b = true := by
      intro l l' vs b h h1 h2
      obtain ⟨k1, rfl⟩ := allO_spec h
      rw [List.all_eq_true]
      intro i hi
      rw [List.mem_range] at hi
      have e1 := k1 i hi
      rw [List.getElem_zipWith] at e1
      rw [List.length_zipWith] at hi
      have a1 := h1.length; have a2 := h2.length
      exact ih _ _ _ _ e1 (h1.at i (by omega) (by omega)) (h2.at i (by omega) (by omega))
    intro d e b v h h1 h2
    cases veq_inv h with
    | none => rfl
    | bool a c => cases (show v = .bool _ from h1); cases (show Value.bool _ = .bool _ from h2); exact beq_self_eq_true _
    | int a c => obtain ⟨t, rfl⟩ := h1; obtain ⟨u, e⟩ := h2; cases e; exact beq_self_eq_true _
    | str a c => obtain ⟨t, rfl⟩ := h1; obtain ⟨u, e⟩ := h2; cases e; exact beq_self_eq_true _
    | tup l l' c hq =>
      obtain ⟨a, its, m, rfl, z, r⟩ := h1
      obtain ⟨a', its', m', e, z', r'⟩ := h2
      cases e; rw [z] at z'; cases z'
      rw [seq _ _ _ _ hq r r', ← r.length, ← r'.length, beq_self_eq_true]; rfl
    | list l l' b h =>
      obtain ⟨a, its, m, rfl, z, r⟩ := h1
      obtain ⟨a', its', m', e, z', r'⟩ := h2
      cases e; rw [z] at z'; cases z'
      rw [if_pos (by rw [← r.length, ← r'.length]; exact beq_self_eq_true _)] at h
      exact seq _ _ _ _ h r r'

theorem eq_at {A : Around} {v u : Value} {a a' : Addr} {b : Bool} (hs : a = a' → b = true) (R : RcAt A s (.ref a) (.ref a') b) : EqAt A s (.ref a) (.ref a') b := by
  by_cases ha : a = a'
  · subst ha; rw [hs rfl]; exact EqAt.same _
  · exact EqAt.of_refs ha R
theorem eq_items (n : Nat) (ih : ∀ (A : Around) d e b v u, veq n d e = some b → VRel X.prog X.w Z d v → VRel X.prog X.w Z e u → A.units + n < cLine → EqAt A s v u b) {A : Around} (hu : A.units + n < cLine) {l l' : List V} {its its' : Array Value} {c : Bool} (hc : allO (List.zipWith (veq n) l l') = some c) (r : VsRel X.prog X.w Z l its.toList) (r' : VsRel X.prog X.w Z l' its'.toList) :
    ∃ f : Nat → Bool, (∀ j (h1 : j < its.size) (h2 : j < its'.size), EqAt A s its[j] its'[j] (f j)) ∧ c = (List.range (min its.size its'.size)).all f := by
  obtain ⟨k1, hk⟩ := allO_spec hc
  have e1 : its.size = l.length := r.length
  have e2 : its'.size = l'.length := r'.length
  refine ⟨_, fun j hj hj' => ?_, by rw [hk, List.length_zipWith, e1, e2]⟩
  have q := k1 j (by rw [List.length_zipWith, ← e1, ← e2]; exact Nat.lt_min.mpr ⟨hj, hj'⟩)
  rw [List.getElem_zipWith] at q
  exact ih A _ _ _ _ _ q (r.at j (e1 ▸ hj) hj) (r'.at j (e2 ▸ hj') hj') hu
theorem eq_core (hz : ∀ a o, Z a = some o → s.heap.get? a = some o) : ∀ n (A : Around) d e b v u, veq n d e = some b → VRel X.prog X.w Z d v → VRel X.prog X.w Z e u → A.units + n < cLine →
    RcAt A s v u b ∧ RcNeAt A s v u (!b) ∧ EqAt A s v u b := by
  intro n
  induction n with
  | zero => intro A d e b v u h; exact noneSome h
  | succ n ih =>
    intro A d e b v u h h1 h2 hu
    have hu' : A.units < cLine := Nat.lt_of_le_of_lt (Nat.le_add_right _ _) hu
    have hu1 : A.in1.units + n < cLine := by show A.units + 1 + n < cLine; rw [Nat.add_right_comm]; exact hu
    have hsame := fun v => veq_same (X := X) (Z := Z) (n + 1) d e b v h
    cases veq_inv h with
    | none => cases (show v = .none from h1); cases (show u = .none from h2); exact ⟨RcAt.none_none, RcNeAt.none_none, EqAt.same _⟩
    | bool a c => cases (show v = .bool _ from h1); cases (show u = .bool _ from h2); exact ⟨RcAt.bool_bool _ _, RcNeAt.bool_bool _ _, EqAt.bool_bool _ _⟩
    | int a c => obtain ⟨t, rfl⟩ := h1; obtain ⟨t', rfl⟩ := h2; exact ⟨RcAt.int_int _ _ _ _, RcNeAt.int_int _ _ _ _, EqAt.int_int _ _ _ _⟩
    | str a c => obtain ⟨t, rfl⟩ := h1; obtain ⟨t', rfl⟩ := h2; exact ⟨RcAt.str_str _ _ _ _, RcNeAt.str_str _ _ _ _, EqAt.str_str _ _ _ _⟩
    | tup l l' c hq =>
      obtain ⟨a, its, m, rfl, z, r⟩ := id h1
      obtain ⟨a', its', m', rfl, z', r'⟩ := id h2
      obtain ⟨f, hf, rfl⟩ := eq_items n (fun A d e b v u q1 q2 q3 q4 => (ih A d e b v u q1 q2 q3 q4).2.2) hu1 hq r r'
      have el : its.size = l.length := r.length
      have el' : its'.size = l'.length := r'.length
      have R := RcAt.tuples ⟨_, hz _ _ z, rfl, _, rfl⟩ ⟨_, hz _ _ z', rfl, _, rfl⟩ hu' hf
      have N := RcNeAt.tuples ⟨_, hz _ _ z, rfl, _, rfl⟩ ⟨_, hz _ _ z', rfl, _, rfl⟩ hu' hf
      rw [← el, ← el'] at hsame ⊢
      exact ⟨R, N, eq_at (u := .ref a) (v := .ref a) (fun ha => by subst ha; exact hsame _ h1 h2) R⟩
    | list l l' b h =>
      obtain ⟨a, its, m, rfl, z, r⟩ := id h1
      obtain ⟨a', its', m', rfl, z', r'⟩ := id h2
      have t1 : s.heap.IsList a its := ⟨_, hz _ _ z, rfl, _, rfl⟩
      have t2 : s.heap.IsList a' its' := ⟨_, hz _ _ z', rfl, _, rfl⟩
      have el : its.size = l.length := r.length
      have el' : its'.size = l'.length := r'.length
      have core : RcAt A s (.ref a) (.ref a') b ∧ RcNeAt A s (.ref a) (.ref a') (!b) := by
        rw [← el, ← el'] at h
        split at h
        · rename_i hl
          obtain ⟨f, hf, rfl⟩ := eq_items n (fun A d e b v u q1 q2 q3 q4 => (ih A d e b v u q1 q2 q3 q4).2.2) hu1 h r r'
          have R := RcAt.lists t1 t2 (eq_of_beq hl) hu' hf
          have N := RcNeAt.lists t1 t2 (eq_of_beq hl) hu' hf
          rw [eq_of_beq hl, Nat.min_self]; rw [eq_of_beq hl] at R N
          exact ⟨R, N⟩
        · rename_i hl
          cases h
          have hl' : (its.size != its'.size) = true := by rw [bne, eq_false_of_ne_true hl]; rfl
          exact ⟨RcAt.lists_lengths t1 t2 hl' hu', RcNeAt.lists_lengths t1 t2 hl' hu'⟩
      exact ⟨core.1, core.2, eq_at (u := .ref a) (v := .ref a) (fun ha => by subst ha; exact hsame _ h1 h2) core.1⟩

theorem CMP.eqv {k : Nat} {d e : V} {b : Bool} (n : Nat) (hA : Rm X.A k) (hb : veq n d e = some b) (h : P (.bool b) σ) (hn : n ≤ 700 := by decide) : CMP X .Eq d e σ P := fun Z s v u r h1 h2 => by
  have := hA.cl
  exact (eq_core r.zin n X.A d e b v u hb h1 h2 (by omega)).1 _ _ _ _ (hereV (Ext.refl r) vr_bool h)
theorem CMP.nev {k : Nat} {d e : V} {b : Bool} (n : Nat) (hA : Rm X.A k) (hb : veq n d e = some b) (h : P (.bool (!b)) σ) (hn : n ≤ 700 := by decide) : CMP X .NotEq d e σ P := fun Z s v u r h1 h2 => by
  have := hA.cl
  exact (eq_core r.zin n X.A d e b v u hb h1 h2 (by omega)).2.1 _ _ _ _ (hereV (Ext.refl r) vr_bool h)

end
end Mine
end
section
open PySem PySem.Spec PySem.Calls PyProof.Rows PySem.W PySem.SeqAt
namespace Mine
section
variable {X : Cx} {σ σ' : St} {Z Z' : ZM} {s s' : Shared} {P : V → St → Prop}

theorem VsRel.length' {l : List V} {its : Array Value} (h : VsRel X.prog X.w Z l its.toList) : its.size = l.length := by rw [← h.length]; simp

/-! slices of lists -/
noncomputable def pickV (l : List V) (lo hi st : Option Int) : List V :=
  (sliceRange (sliceBounds lo hi st l.length).1 (sliceBounds lo hi st l.length).2.1 (sliceBounds lo hi st l.length).2.2).filterMap (l[·]?)
theorem VsRel.pick {l : List V} {vs : List Value} (h : VsRel X.prog X.w Z l vs) : ∀ js : List Nat, VsRel X.prog X.w Z (js.filterMap (l[·]?)) (js.filterMap (vs[·]?))
  | [] => rfl
  | j :: js => by
    have ih := h.pick js
    cases e : l[j]? with
    | none =>
      have : vs[j]? = none := by rw [List.getElem?_eq_none_iff] at e ⊢; rw [h.length]; exact e
      rw [List.filterMap_cons_none e, List.filterMap_cons_none this]; exact ih
    | some d =>
      obtain ⟨v, hv, hr⟩ := h.get e
      rw [List.filterMap_cons_some e, List.filterMap_cons_some hv]; exact ⟨v, _, rfl, hr, ih⟩
theorem SUB.sliceL {l : List V} {lo hi st : Option Int} (hs : l.length ≤ sizeLine) (h0 : st ≠ some 0) (h : P (.list (pickV l lo hi st)) σ) : SUB X (.list l) (.slc lo hi st) σ P := fun Z s v1 v2 r h1 h2 => by
  obtain ⟨a, its, n, rfl, ha, hr⟩ := h1
  obtain ⟨b, lv, uv, sv, rfl, hb, p1, p2, p3⟩ := h2
  have pl := (r.plist ha).isList
  refine ⟨⟨_, _, ⟨_, r.zin _ _ ha, rfl⟩, slot_list_getitem.lookup⟩, ?_⟩
  refine wpAny_getItem_list_slice pl ⟨_, r.zin _ _ hb, rfl, rfl⟩ p1 p2 p3 h0 ?_ (by rw [hr.length']; exact hs)
  obtain ⟨x, hle⟩ := (Ext.refl r).pushZ { cls := .type "list", data := .seq (slicePick its lo hi st) }
  refine hereV x (vr_list Zput.self ?_) h
  have q : VsRel X.prog X.w Z (pickV l lo hi st) (slicePick its lo hi st).toList := by
    unfold slicePick pickV
    rw [hr.length']
    simpa using hr.pick (sliceRange (sliceBounds lo hi st l.length).1 (sliceBounds lo hi st l.length).2.1 (sliceBounds lo hi st l.length).2.2)
  exact VsRel.mono hle q

/-! list + list, list * n -/
theorem BIN.addL {l l' : List V} (h : P (.list (l ++ l')) σ) (hs : l.length + l'.length ≤ sizeLine) : BIN X .Add (.list l) (.list l') σ P := fun Z s v1 v2 r h1 h2 => by
  obtain ⟨a, its, n, rfl, ha, hr⟩ := h1
  obtain ⟨b, its', n', rfl, hb, hr'⟩ := h2
  refine PySem.P.add_list (r.zin _ _ ha) (r.zin _ _ hb) ?_ (by rw [hr.length', hr'.length']; exact hs)
  obtain ⟨x, hle⟩ := (Ext.refl r).pushZ { cls := .type "list", data := .seq (its ++ its') }
  refine hereV x (vr_list Zput.self ?_) h
  rw [Array.toList_append]
  exact (VsRel.append hr hr').mono hle
theorem VsRel.rep {l : List V} {vs : List Value} (h : VsRel X.prog X.w Z l vs) : ∀ k : Nat, VsRel X.prog X.w Z (List.replicate k l).flatten (List.replicate k vs).flatten
  | 0 => by simp; rfl
  | k + 1 => by rw [List.replicate_succ, List.replicate_succ, List.flatten_cons, List.flatten_cons]; exact h.append (h.rep k)
theorem BIN.mulL {l : List V} {k : Int} (h : P (.list (List.replicate k.toNat l).flatten) σ) (h0 : l ≠ []) (hs : l.length * k.toNat ≤ 2 ^ 24) (hk : -(2 ^ 63) ≤ k ∧ k < 2 ^ 63) : BIN X .Mult (.list l) (.int k) σ P := fun Z s v1 v2 r h1 h2 => by
  obtain ⟨a, its, n, rfl, ho, hr⟩ := h1
  obtain ⟨u, rfl⟩ := h2
  have ho := r.zin _ _ ho
  have hlen := hr.length'
  have hsz : its.size * k.toNat ≤ 2 ^ 24 := by rw [hlen]; exact hs
  have hne : its.isEmpty = false := by
    rw [Array.isEmpty_eq_false_iff]; intro e; apply h0; subst e; exact List.length_eq_zero_iff.mp (by simpa using hlen.symm)
  refine wpAny_binaryOp_repeat_ref (T := "list") (U := "int") (by decide) ⟨_, ho, rfl⟩ (fun s' => typeIs_int s' k u) noFill_list_mul F.fills_int_mul F.slot_int_rmul repeat_list F.slot_int_index.lookup
    (call_meets F.slot_int_rmul (typeIs_int s k u) F.entry_int_rmul (F.args_int_rmul_2 _ _) (lm_int_rmul_list_any k u a its n none #[])
      ⟨ho, rfl, ⟨_, ho, rfl⟩, call_meets F.slot_list_mul ⟨_, ho, rfl⟩ F.entry_list_mul (F.args_list_mul_2 _ _)
        (lm_list_mul_any a its n none #[] k u (by simp [Builtin.List.listFitsIndex]; omega) (by omega) (by simp [Builtin.List.listTooLong, sizeLine]; omega))
        ⟨ho, ?_⟩⟩)
  rw [hne]
  obtain ⟨x, hle⟩ := (Ext.refl r).pushZ { cls := Value.type "list", data := Data.seq (List.foldl (fun x1 x2 => x1 ++ x2) #[] (List.replicate k.toNat its)) }
  refine hereV x (vr_list Zput.self ?_) h
  have q : VsRel X.prog X.w Z (List.replicate k.toNat l).flatten (List.foldl (fun x1 x2 => x1 ++ x2) #[] (List.replicate k.toNat its)).toList := by
    rw [listMul_foldl]; simpa using hr.rep k.toNat
  exact VsRel.mono hle q

/-! in -/
theorem veq_none' {n : Nat} {d : V} {b : Bool} (h : veq (n + 1) d .none = some b) : d = .none ∧ b = true := by
  cases veq_inv h; exact ⟨rfl, rfl⟩
theorem veq_bool' {n : Nat} {d : V} {b c : Bool} (h : veq (n + 1) d (.bool c) = some b) : ∃ a, d = .bool a ∧ b = (a == c) := by
  cases veq_inv h; exact ⟨_, rfl, rfl⟩
theorem veq_int' {n : Nat} {d : V} {b : Bool} {c : Int} (h : veq (n + 1) d (.int c) = some b) : ∃ a, d = .int a ∧ b = (a == c) := by
  cases veq_inv h; exact ⟨_, rfl, rfl⟩
theorem veq_str' {n : Nat} {d : V} {b : Bool} {c : Str} (h : veq (n + 1) d (.str c) = some b) : ∃ a, d = .str a ∧ b = (a == c) := by
  cases veq_inv h; exact ⟨_, rfl, rfl⟩
theorem veq_tup' {n : Nat} {d : V} {b : Bool} {l' : List V} (h : veq (n + 1) d (.tup l') = some b) : ∃ l c, d = .tup l ∧ allO (List.zipWith (veq n) l l') = some c ∧ b = (c && l.length == l'.length) := by
  cases veq_inv h with
  | tup l _ c hq => exact ⟨l, c, rfl, hq, rfl⟩
theorem veq_list' {n : Nat} {d : V} {b : Bool} {l' : List V} (h : veq (n + 1) d (.list l') = some b) : ∃ l, d = .list l ∧ (if l.length == l'.length then allO (List.zipWith (veq n) l l') else some false) = some b := by
  cases veq_inv h with
  | list l _ b hq => exact ⟨l, rfl, hq⟩
theorem allO_fun {n : Nat} (ih : ∀ d d' e b b' v, veq n d e = some b → veq n d' e = some b' → VRel X.prog X.w Z d v → VRel X.prog X.w Z d' v → b = b') {l l' le : List V} {vs : List Value} {b b' : Bool}
    (h : allO (List.zipWith (veq n) l le) = some b) (h' : allO (List.zipWith (veq n) l' le) = some b') (h1 : VsRel X.prog X.w Z l vs) (h2 : VsRel X.prog X.w Z l' vs) : b = b' := by
  have a1 := h1.length; have a2 := h2.length
  have hl : (List.zipWith (veq n) l le).length = (List.zipWith (veq n) l' le).length := by rw [List.length_zipWith, List.length_zipWith, ← a1, ← a2]
  obtain ⟨k1, rfl⟩ := allO_spec h
  obtain ⟨k2, rfl⟩ := allO_spec h'
  rw [← hl]
  have one : ∀ i ∈ List.range (List.zipWith (veq n) l le).length, ((List.zipWith (veq n) l le)[i]?.getD (some true)).getD true = ((List.zipWith (veq n) l' le)[i]?.getD (some true)).getD true := by
    intro i hi
    rw [List.mem_range] at hi
    have e1 := k1 i hi
    have e2 := k2 i (hl ▸ hi)
    rw [List.getElem_zipWith] at e1 e2
    rw [List.length_zipWith] at hi
    have hi1 := Nat.lt_of_lt_of_le hi (Nat.min_le_left _ _)
    have hi2 : i < l'.length := by rw [← a2, a1]; exact hi1
    exact ih _ _ _ _ _ _ e1 e2 (h1.at i hi1 (a1 ▸ hi1)) (h2.at i hi2 (a2 ▸ hi2))
  rw [Bool.eq_iff_iff, List.all_eq_true, List.all_eq_true]
  exact ⟨fun q i hi => (one i hi).symm.trans (q i hi), fun q i hi => (one i hi).trans (q i hi)⟩
theorem veq_fun : ∀ n d d' e b b' v, veq n d e = some b → veq n d' e = some b' → VRel X.prog X.w Z d v → VRel X.prog X.w Z d' v → b = b' := by
  intro n
  induction n with
  | zero => intro d d' e b b' v h; exact noneSome h
  | succ n ih =>
    intro d d' e b b' v h h' h1 h2
    cases veq_inv h with
    | none => exact (veq_none' h').2.symm
    | bool a c =>
      obtain ⟨a', rfl, rfl⟩ := veq_bool' h'
      cases (show v = .bool _ from h1); cases (show Value.bool _ = .bool _ from h2); rfl
    | int a c =>
      obtain ⟨a', rfl, rfl⟩ := veq_int' h'
      obtain ⟨t, rfl⟩ := h1; obtain ⟨u, e⟩ := h2; cases e; rfl
    | str a c =>
      obtain ⟨a', rfl, rfl⟩ := veq_str' h'
      obtain ⟨t, rfl⟩ := h1; obtain ⟨u, e⟩ := h2; cases e; rfl
    | tup l le c hq =>
      obtain ⟨l', c', rfl, hq', rfl⟩ := veq_tup' h'
      obtain ⟨a, its, m, rfl, z, r⟩ := h1
      obtain ⟨a', its', m', e, z', r'⟩ := h2
      cases e; rw [z] at z'; cases z'
      rw [allO_fun ih hq hq' r r', ← r.length, ← r'.length]
    | list l le b h =>
      obtain ⟨l', rfl, q'⟩ := veq_list' h'
      obtain ⟨a, its, m, rfl, z, r⟩ := h1
      obtain ⟨a', its', m', e, z', r'⟩ := h2
      cases e; rw [z] at z'; cases z'
      rw [← r.length] at h; rw [← r'.length] at q'
      split at h
      · rename_i hh
        rw [if_pos hh] at q'
        exact allO_fun ih h q' r r'
      · rename_i hh
        rw [if_neg hh] at q'
        exact (Option.some.inj h).symm.trans (Option.some.inj q')

theorem eqs_core {n : Nat} {e : V} {u : Value} {l : List V} {its : Array Value} {A : Around} (hz : ∀ a o, Z a = some o → s.heap.get? a = some o) {f : V → Bool} (hf : ∀ d ∈ l, veq n d e = some (f d)) (hl : VsRel X.prog X.w Z l its.toList) (he : VRel X.prog X.w Z e u) (hA : A.units + n < cLine) :
    ∃ g : Value → Bool, (∀ y, y ∈ its → EqAt A s y u (g y)) ∧ its.toList.map g = l.map f := by
  classical
  have key : ∀ d ∈ l, ∀ y, VRel X.prog X.w Z d y → (if h : ∃ d ∈ l, VRel X.prog X.w Z d y then f h.choose else false) = f d := by
    intro d hd y hy
    have hh : ∃ d ∈ l, VRel X.prog X.w Z d y := ⟨d, hd, hy⟩
    rw [dif_pos hh]
    exact veq_fun n _ _ e _ _ y (hf _ hh.choose_spec.1) (hf _ hd) hh.choose_spec.2 hy
  refine ⟨fun y => if h : ∃ d ∈ l, VRel X.prog X.w Z d y then f h.choose else false, fun y hy => ?_, ?_⟩
  · obtain ⟨j, hj, rfl⟩ := List.mem_iff_getElem.mp (Array.mem_toList_iff.mpr hy)
    have hj' : j < l.length := by rw [← hl.length]; exact hj
    have hr := hl.at j hj' hj
    have hm := List.getElem_mem hj'
    show EqAt A s its.toList[j] u (if h : ∃ d ∈ l, VRel X.prog X.w Z d its.toList[j] then f h.choose else false)
    rw [key _ hm _ hr]
    exact (eq_core hz n A _ _ _ _ _ (hf _ hm) hr he hA).2.2
  · refine List.ext_getElem (by simp [hl.length']) fun j h1 h2 => ?_
    rw [List.getElem_map, List.getElem_map]
    have hj' : j < l.length := by simpa using h2
    have hj : j < its.toList.length := by simpa using h1
    exact key _ (List.getElem_mem hj') _ (hl.at j hj' hj)
theorem any_map {α β : Type} {l : List α} {l' : List β} {f : α → Bool} {g : β → Bool} (h : l.map f = l'.map g) : l.any f = l'.any g := by
  have e1 : l.any f = (l.map f).any id := by rw [List.any_map]; rfl
  rw [e1, h, List.any_map]; rfl
theorem CMP.inL {k : Nat} {e : V} {l : List V} {f : V → Bool} (n : Nat) (hA : Rm X.A k) (hf : ∀ d ∈ l, veq n d e = some (f d)) (h : P (.bool (l.any f)) σ) (hn : n ≤ 700 := by decide) : CMP X .In e (.list l) σ P := fun Z s v u r h1 h2 => by
  have := hA.cl
  obtain ⟨a, its, m, rfl, ha, hr⟩ := h2
  obtain ⟨g, hg, hm⟩ := eqs_core (A := X.A.in1) r.zin hf hr h1 (by show X.A.units + 1 + n < cLine; omega)
  refine in_listAt g (r.plist ha).isList hg (hereV (Ext.refl r) vr_bool ?_)
  rw [← Array.any_toList, any_map hm]; exact h
theorem CMP.ninL {k : Nat} {e : V} {l : List V} {f : V → Bool} (n : Nat) (hA : Rm X.A k) (hf : ∀ d ∈ l, veq n d e = some (f d)) (h : P (.bool (!l.any f)) σ) (hn : n ≤ 700 := by decide) : CMP X .NotIn e (.list l) σ P := fun Z s v u r h1 h2 => by
  have := hA.cl
  obtain ⟨a, its, m, rfl, ha, hr⟩ := h2
  obtain ⟨g, hg, hm⟩ := eqs_core (A := X.A.in1) r.zin hf hr h1 (by show X.A.units + 1 + n < cLine; omega)
  refine notIn_listAt g (r.plist ha).isList hg (hereV (Ext.refl r) vr_bool ?_)
  rw [← Array.any_toList, any_map hm]; exact h
theorem CMP.inT {k : Nat} {e : V} {l : List V} {f : V → Bool} (n : Nat) (hA : Rm X.A k) (hf : ∀ d ∈ l, veq n d e = some (f d)) (h : P (.bool (l.any f)) σ) (hn : n ≤ 700 := by decide) : CMP X .In e (.tup l) σ P := fun Z s v u r h1 h2 => by
  have := hA.cl
  obtain ⟨a, its, m, rfl, ha, hr⟩ := h2
  obtain ⟨g, hg, hm⟩ := eqs_core (A := X.A.in1) r.zin hf hr h1 (by show X.A.units + 1 + n < cLine; omega)
  refine in_tupleAt g ⟨_, r.zin _ _ ha, rfl, _, rfl⟩ hg (hereV (Ext.refl r) vr_bool ?_)
  rw [← Array.any_toList, any_map hm]; exact h
/-! index, count -/
theorem CALL.count {k : Nat} {e : V} {l : List V} {f : V → Bool} (n : Nat) (hA : Rm X.A k) (hf : ∀ d ∈ l, veq n d e = some (f d)) (h : P (.int (l.countP f : Nat)) σ) (hn : n ≤ 700 := by decide) : CALL X (.builtin "list.count") [.list l, e] σ P := fun Z s vs r hvs => by
  have := hA.cl
  obtain ⟨v, u, rfl, ⟨a, its, m, rfl, ha, hr⟩, h1⟩ := vs2 hvs
  obtain ⟨g, hg, hm⟩ := eqs_core (A := X.A.in1) r.zin hf hr h1 (by show X.A.units + 1 + n < cLine; omega)
  refine call_meets F.slot_list_count ⟨_, r.zin _ _ ha, rfl⟩ F.entry_list_count (F.args_list_count_2 _ _) (list_countAt a its m none #[] u g) ⟨r.zin _ _ ha, hg, hereV (Ext.refl r).toks (vr_int' ?_) h⟩
  have e1 : its.toList.countP g = (its.toList.map g).countP id := by rw [List.countP_map]; rfl
  rw [e1, hm, List.countP_map]; rfl
theorem CALL.index {k : Nat} {e : V} {l : List V} {f : V → Bool} (n : Nat) (hA : Rm X.A k) (hf : ∀ d ∈ l, veq n d e = some (f d)) {j : Nat} (hj : (l.map f).findIdx? id = some j) (hs : l.length ≤ sizeLine) (h : P (.int j) σ) (hn : n ≤ 700 := by decide) : CALL X (.builtin "list.index") [.list l, e] σ P := fun Z s vs r hvs => by
  have := hA.cl
  obtain ⟨v, u, rfl, ⟨a, its, m, rfl, ha, hr⟩, h1⟩ := vs2 hvs
  obtain ⟨g, hg, hm⟩ := eqs_core (A := X.A.in1) r.zin hf hr h1 (by show X.A.units + 1 + n < cLine; omega)
  rw [← hm] at hj
  obtain ⟨hlt, hp, hno⟩ := List.findIdx?_eq_some_iff_getElem.mp hj
  have hlt' : j < its.size := by simpa using hlt
  have hsz := hr.length'
  have sl : sizeLine < 2 ^ 60 := by decide
  refine call_meets F.slot_list_index ⟨_, r.zin _ _ ha, rfl⟩ F.entry_list_index (F.args_list_index_2 _ _) (list_indexAt a its m none #[] u g j hlt' (by omega) (by simpa using hp) (fun i hi hij => ?_)) ⟨r.zin _ _ ha, hg, hereV (Ext.refl r).toks (vr_int' rfl) h⟩
  have := hno i hij
  simpa using this

/-! methods that change a list of the ledger -/
theorem CALL.append {a : Addr} {l : List V} {d : V} {mem'} (hm : (a, Cell.list l) ∈ σ.mem) (hu : UpM a (.list (l ++ [d])) σ.mem mem') (h : P .none { σ with mem := mem' }) (hs : l.length ≤ sizeLine) : CALL X (.builtin "list.append") [.ref a, d] σ P := fun Z s vs r hvs => by
  obtain ⟨v, u, rfl, h0, hd⟩ := vs2 hvs
  cases h0
  obtain ⟨its, ⟨m, hp⟩, hr⟩ := r.mem _ hm
  have hsz := hr.length'
  refine call_meets F.slot_list_append ⟨_, hp, rfl⟩ F.entry_list_append (F.args_list_append_2 _ _) (PySem.list_append a its m u (by omega)) ⟨hp, ?_⟩
  obtain ⟨hp', hs'⟩ := PlainList.upd ⟨m, hp⟩ fun xs => xs.push u
  refine hereV (r.setMem hu hs' ⟨_, hp', ?_⟩) vr_none h
  rw [Array.toList_push]
  exact hr.append ⟨u, [], rfl, hd, rfl⟩
theorem VsRel.eraseIdx {l : List V} {vs : List Value} (h : VsRel X.prog X.w Z l vs) (i : Nat) : VsRel X.prog X.w Z (l.eraseIdx i) (vs.eraseIdx i) := by
  refine VsRel.of_get (by rw [List.length_eraseIdx, List.length_eraseIdx, h.length]) fun j d v h1 h2 => ?_
  rw [List.getElem?_eraseIdx] at h1 h2
  split at h1
  · rename_i hh
    rw [if_pos hh] at h2
    obtain ⟨v', hv', hr⟩ := h.get h1
    rw [h2] at hv'; cases hv'; exact hr
  · rename_i hh
    rw [if_neg hh] at h2
    obtain ⟨v', hv', hr⟩ := h.get h1
    rw [h2] at hv'; cases hv'; exact hr
theorem CALL.pop {a : Addr} {l : List V} {d : V} {mem'} (hm : (a, Cell.list (l ++ [d])) ∈ σ.mem) (hu : UpM a (.list l) σ.mem mem') (h : P d { σ with mem := mem' }) (hs : l.length + 1 ≤ sizeLine) : CALL X (.builtin "list.pop") [.ref a] σ P := fun Z s vs r hvs => by
  obtain ⟨v, rfl, h0⟩ := vs1 hvs
  cases h0
  obtain ⟨its, ⟨m, hp⟩, hr⟩ := r.mem _ hm
  have hsz := hr.length'
  simp only [List.length_append, List.length_cons, List.length_nil] at hsz
  obtain ⟨y, hy, hyr⟩ := hr.get (i := l.length) (d := d) (by simp)
  have hy' : its[its.size - 1]? = some y := by rw [hsz]; simpa using hy
  refine call_meets F.slot_list_pop ⟨_, hp, rfl⟩ F.entry_list_pop (F.args_list_pop_1 _) (PySem.MeetsSeq.list_pop_last a its m y hy' (by omega)) ⟨hp, ?_⟩
  obtain ⟨hp', hs'⟩ := PlainList.upd ⟨m, hp⟩ fun xs => xs.eraseIdxIfInBounds (its.size - 1)
  refine hereV (r.setMem hu hs' ⟨_, hp', ?_⟩) hyr h
  have := hr.eraseIdx (its.size - 1)
  rw [Array.eraseIdxIfInBounds, dif_pos (by omega), Array.toList_eraseIdx]
  rw [hsz] at this ⊢
  have e : (l ++ [d]).eraseIdx (l.length + (0 + 1) - 1) = l := by
    rw [show l.length + (0 + 1) - 1 = l.length by omega, List.eraseIdx_append_of_length_le (Nat.le_refl _)]; simp
  rw [e] at this
  exact this
theorem CALL.pop0 {a : Addr} {l : List V} {d : V} {mem'} (hm : (a, Cell.list (d :: l)) ∈ σ.mem) (hu : UpM a (.list l) σ.mem mem') (h : P d { σ with mem := mem' }) (hs : l.length + 1 ≤ sizeLine) : CALL X (.builtin "list.pop") [.ref a, .int 0] σ P := fun Z s vs r hvs => by
  obtain ⟨v, u, rfl, h0, t, rfl⟩ := vs2 hvs
  cases h0
  obtain ⟨its, ⟨m, hp⟩, hr⟩ := r.mem _ hm
  have hsz := hr.length'
  simp only [List.length_cons] at hsz
  obtain ⟨y, hy, hyr⟩ := hr.get (i := 0) (d := d) (by simp)
  have hy' : its[0]? = some y := by simpa using hy
  refine call_meets F.slot_list_pop ⟨_, hp, rfl⟩ F.entry_list_pop (F.args_list_pop_2 _ _) (PySem.MeetsSeq.list_pop_at a its m 0 t 0 y (by decide) (by unfold seqIndex?; simp [hsz]) hy' (by omega)) ⟨hp, ?_⟩
  obtain ⟨hp', hs'⟩ := PlainList.upd ⟨m, hp⟩ fun xs => xs.eraseIdxIfInBounds 0
  refine hereV (r.setMem hu hs' ⟨_, hp', ?_⟩) hyr h
  have := hr.eraseIdx 0
  rw [Array.eraseIdxIfInBounds, dif_pos (by omega), Array.toList_eraseIdx]
  simpa using this
theorem TRU.cell {P : Bool → St → Prop} {a : Addr} {l : List V} (hm : (a, Cell.list l) ∈ σ.mem) (h : P (!l.isEmpty) σ) (hs : l.length ≤ sizeLine) : TRU X (.ref a) σ P := fun Z s v1 r e => by
  cases e
  obtain ⟨its, ⟨m, hp⟩, hr⟩ := r.mem _ hm
  have hsz := hr.length'
  have sl : sizeLine < 2 ^ 60 := by decide
  refine wpAny_truthy_list ⟨_, hp, rfl, _, rfl⟩ (by omega) (here (b := !l.isEmpty) (Ext.refl r).toks ?_ h)
  show (!l.isEmpty) = (!its.isEmpty)
  have : its.isEmpty = l.isEmpty := by rw [Bool.eq_iff_iff]; simp [← Array.size_eq_zero_iff, ← List.length_eq_zero_iff, hsz]
  rw [this]
end
end Mine
end
section
open PySem PySem.Spec PySem.Calls PyProof.Rows PySem.W PySem.SeqAt
namespace Mine
section
variable {X : Cx} {σ σ' : St} {Z Z' : ZM} {s s' : Shared} {P : V → St → Prop}

theorem AS.mono {t d} {Q Q' : St → Prop} (h : AS X t d σ Q) (k : ∀ σ', Q σ' → Q' σ') : AS X t d σ Q' := AS.post h k
theorem TS.mono {ifs} {Q Q' : Bool → St → Prop} (h : TS X ifs σ Q) (k : ∀ b σ', Q b σ' → Q' b σ') : TS X ifs σ Q' := J.mono h k

theorem take_succ_of {α : Type} {xs : List α} {i : Nat} {x : α} (h : xs[i]? = some x) : xs.take (i + 1) = xs.take i ++ [x] := by
  rw [List.take_add_one, h]; rfl

/-- [F x for x in xs if p x], its body without effect: what the iterable hands over -/
inductive LCF (X : Cx) (α : Type) (elt target : PySem.Expr) (ifs : List PySem.Expr) (scope : Scope) (R : List V → St → Prop) (d : V) (σ1 : St) : Prop
  | mk (locc celc : List (Str × Option V)) (capc : List (Str × V)) (xs : List α) (enc F : α → V) (p : α → Bool) (hit : ITERC X target σ1 d (xs.map enc)) (hL : ScL σ1.cel σ1.cap scope.names locc celc capc) (hsz : xs.length ≤ sizeLine)
    (turn : ∀ C D c x, x ∈ xs → AS (X.comp scope C) target (enc x) ⟨locc, celc, capc, σ1.mem ++ [(D, c)]⟩ fun σ2 => TS (X.comp scope C) ifs σ2 fun ok σ3 => ok = p x ∧ if p x then EV (X.comp scope C) elt σ3 fun d σ4 => d = F x ∧ Back ⟨locc, celc, capc, []⟩ (σ1.mem ++ [(D, c)]) σ4 else Back ⟨locc, celc, capc, []⟩ (σ1.mem ++ [(D, c)]) σ3)
    (fin : R ((xs.filter p).map F) σ1)
inductive LCM (X : Cx) (α : Type) (elt target : PySem.Expr) (scope : Scope) (R : List V → St → Prop) (d : V) (σ1 : St) : Prop
  | mk (locc celc : List (Str × Option V)) (capc : List (Str × V)) (xs : List α) (enc F : α → V) (hit : ITERC X target σ1 d (xs.map enc)) (hL : ScL σ1.cel σ1.cap scope.names locc celc capc) (hsz : xs.length ≤ sizeLine)
    (turn : ∀ C D c x, x ∈ xs → AS (X.comp scope C) target (enc x) ⟨locc, celc, capc, σ1.mem ++ [(D, c)]⟩ fun σ2 => EV (X.comp scope C) elt σ2 fun d σ4 => d = F x ∧ Back ⟨locc, celc, capc, []⟩ (σ1.mem ++ [(D, c)]) σ4)
    (fin : R (xs.map F) σ1)
theorem LCF.next {α : Type} {xs : List α} {p : α → Bool} {β : Type} {F : α → β} {i : Nat} {x : α} (hx : xs[i]? = some x) : ((xs.take (i + 1)).filter p).map F = ((xs.take i).filter p).map F ++ if p x then [F x] else [] := by
  rw [take_succ_of hx, List.filter_append, List.map_append, List.filter_cons]
  split <;> rfl
theorem LCF.len {α : Type} {xs : List α} {p : α → Bool} {β : Type} {F : α → β} {i n : Nat} (h : xs.length ≤ n) : (((xs.take i).filter p).map F).length ≤ n := by
  rw [List.length_map]
  exact Nat.le_trans (List.length_filter_le ..) (Nat.le_trans (List.length_take_le' ..) h)
theorem LCF.step {α : Type} {elt target iter : PySem.Expr} {ifs : List PySem.Expr} {scope : Scope} {pos : Pos} {locc celc : List (Str × Option V)} {capc : List (Str × V)} {xs : List α} {enc F : α → V} {p : α → Bool} {m : List (Addr × Cell)} {C D : Addr} {i : Nat} {di : V} (hsz : xs.length ≤ sizeLine)
    (turn : ∀ c x, x ∈ xs → AS (X.comp scope C) target (enc x) ⟨locc, celc, capc, m ++ [(D, c)]⟩ fun σ2 => TS (X.comp scope C) ifs σ2 fun ok σ3 => ok = p x ∧ if p x then EV (X.comp scope C) elt σ3 fun d σ4 => d = F x ∧ Back ⟨locc, celc, capc, []⟩ (m ++ [(D, c)]) σ4 else Back ⟨locc, celc, capc, []⟩ (m ++ [(D, c)]) σ3)
    (hi : (xs.map enc)[i]? = some di) : TURN (X.comp scope C) (.ListComp elt [⟨target, iter, ifs, 0⟩] scope pos) 0 target ifs D ⟨locc, celc, capc, []⟩ m (.list (((xs.take i).filter p).map F)) m (.list (((xs.take (i + 1)).filter p).map F)) di := by
  rw [List.getElem?_map, Option.map_eq_some_iff] at hi
  obtain ⟨x, hx, rfl⟩ := hi
  refine AS.mono (turn _ x (List.mem_of_getElem? hx)) fun σ2 h2 => TS.mono h2 fun ok σ3 h3 => ?_
  obtain ⟨rfl, h4⟩ := h3
  rw [LCF.next hx]
  split at h4
  · rename_i hp
    rw [if_pos hp, if_pos hp]
    refine IN.one rfl ?_ h4
    exact LCF.len hsz
  · rename_i hp
    rw [if_neg hp, if_neg hp, List.append_nil]
    exact h4
theorem LCF.toG {α : Type} {elt target iter : PySem.Expr} {ifs : List PySem.Expr} {scope : Scope} {pos : Pos} {R : List V → St → Prop} {d : V} {σ1 : St} (h : LCF X α elt target ifs scope R d σ1) :
    LCG X target scope (.ListComp elt [⟨target, iter, ifs, 0⟩] scope pos) ifs (.list []) (fun m c σ2 => m = σ2.mem ∧ ∃ l, c = .list l ∧ R l σ2) d σ1 := by
  cases h with
  | mk locc celc capc xs enc F p hit hL hsz turn fin =>
    refine .mk _ locc celc capc hit hL (fun _ => σ1.mem) (fun i => .list (((xs.take i).filter p).map F)) rfl rfl (fun C D i di hi => LCF.step hsz (turn C D) hi) ⟨rfl, _, rfl, ?_⟩
    rw [List.length_map, List.take_length]; exact fin
theorem LCM.toF {α : Type} {elt target : PySem.Expr} {scope : Scope} {R : List V → St → Prop} {d : V} {σ1 : St} (h : LCM X α elt target scope R d σ1) : LCF X α elt target [] scope R d σ1 := by
  cases h with
  | mk locc celc capc xs enc F hit hL hsz turn fin =>
    refine .mk locc celc capc xs enc F (fun _ => true) hit hL hsz (fun C D c x hx => AS.mono (turn C D c x hx) fun σ2 h2 => TS.nil ⟨rfl, h2⟩) ?_
    rw [List.filter_eq_self.mpr (fun _ _ => rfl)]; exact fin
theorem LCG.mono {target : PySem.Expr} {scope : Scope} {e : PySem.Expr} {ifs : List PySem.Expr} {c0 : Cell} {R R' : List (Addr × Cell) → Cell → St → Prop} {d : V} {σ1 : St} (h : LCG X target scope e ifs c0 R d σ1) (k : ∀ m c, R m c σ1 → R' m c σ1) : LCG X target scope e ifs c0 R' d σ1 := by
  cases h with
  | mk its locc celc capc hit hL ms cs h0 h1 turn fin => exact .mk its locc celc capc hit hL ms cs h0 h1 turn (k _ _ fin)
/-- an end that freezes the list -/
theorem LCE.list {m : List (Addr × Cell)} {c : Cell} {σ1 : St} (h : m = σ1.mem ∧ ∃ l, c = .list l ∧ P (.list l) σ1) : LCE P m c σ1 := by
  obtain ⟨rfl, l, rfl, h⟩ := h; exact ⟨rfl, h⟩
/-- [F x for x in xs if p x], its body without effect -/
theorem EV.lcf {α : Type} {elt target iter : PySem.Expr} {ifs : List PySem.Expr} {scope : Scope} {pos : Pos}
    (h : EV X iter σ (LCF X α elt target ifs scope fun l σ1 => P (.list l) σ1))
    (hok : scopeOkC scope.names = true) (hfk : freeOk scope.names (σ.cel.map (·.1)) (σ.cap.map (·.1)) = true) (hk : scope.kind = .function) (hs : ∀ x, foldedSetIterable iter X.env x = pure x) :
    EV X (.ListComp elt [⟨target, iter, ifs, 0⟩] scope pos) σ P :=
  EV.lcg (J.mono h fun _ _ h => h.toG.mono fun _ _ h => LCE.list h) (fun _ h => nomatch h) hok hfk hk hs
/-- [F x for x in xs] -/
theorem EV.lcm {α : Type} {elt target iter : PySem.Expr} {scope : Scope} {pos : Pos}
    (h : EV X iter σ (LCM X α elt target scope fun l σ1 => P (.list l) σ1))
    (hok : scopeOkC scope.names = true) (hfk : freeOk scope.names (σ.cel.map (·.1)) (σ.cap.map (·.1)) = true) (hk : scope.kind = .function) (hs : ∀ x, foldedSetIterable iter X.env x = pure x) :
    EV X (.ListComp elt [⟨target, iter, [], 0⟩] scope pos) σ P :=
  EV.lcf (J.mono h fun _ _ h => h.toF) hok hfk hk hs

/-! freezing -/
mutual
inductive Fz (a : Addr) (w : V) : V → V → Prop
  | at : Fz a w (.ref a) w
  | same {d} : Fz a w d d
  | tup {l l'} : FzL a w l l' → Fz a w (.tup l) (.tup l')
  | list {l l'} : FzL a w l l' → Fz a w (.list l) (.list l')
inductive FzL (a : Addr) (w : V) : List V → List V → Prop
  | nil : FzL a w [] []
  | cons {d d' l l'} : Fz a w d d' → FzL a w l l' → FzL a w (d :: l) (d' :: l')
end
theorem VRel.fz {a : Addr} {x : V} (hx : VRel X.prog X.w Z x (.ref a)) {d d' : V} {v : Value} (q : Fz a x d d') (h : VRel X.prog X.w Z d v) : VRel X.prog X.w Z d' v :=
  Fz.rec (motive_1 := fun d d' _ => ∀ v, VRel X.prog X.w Z d v → VRel X.prog X.w Z d' v) (motive_2 := fun l l' _ => ∀ vs, VsRel X.prog X.w Z l vs → VsRel X.prog X.w Z l' vs)
    (fun v h => by cases (show v = .ref a from h); exact hx) (fun v h => h) (fun _ ih v h => by obtain ⟨b, its, n, e, z, r⟩ := h; exact ⟨b, its, n, e, z, ih _ r⟩) (fun _ ih v h => by obtain ⟨b, its, n, e, z, r⟩ := h; exact ⟨b, its, n, e, z, ih _ r⟩)
    (fun _ h => h) (fun _ _ i1 i2 vs h => by obtain ⟨v, r, e, h, t⟩ := h; exact ⟨v, r, e, i1 _ h, i2 _ t⟩) q v h
theorem VsRel.fz {a : Addr} {x : V} (hx : VRel X.prog X.w Z x (.ref a)) {l l' : List V} {vs : List Value} (q : FzL a x l l') (h : VsRel X.prog X.w Z l vs) : VsRel X.prog X.w Z l' vs :=
  FzL.rec (motive_1 := fun d d' _ => ∀ v, VRel X.prog X.w Z d v → VRel X.prog X.w Z d' v) (motive_2 := fun l l' _ => ∀ vs, VsRel X.prog X.w Z l vs → VsRel X.prog X.w Z l' vs)
    (fun v h => by cases (show v = .ref a from h); exact hx) (fun v h => h) (fun _ ih v h => by obtain ⟨b, its, n, e, z, r⟩ := h; exact ⟨b, its, n, e, z, ih _ r⟩) (fun _ ih v h => by obtain ⟨b, its, n, e, z, r⟩ := h; exact ⟨b, its, n, e, z, ih _ r⟩)
    (fun _ h => h) (fun _ _ i1 i2 vs h => by obtain ⟨v, r, e, h, t⟩ := h; exact ⟨v, r, e, i1 _ h, i2 _ t⟩) q vs h
theorem FzL.refl {a : Addr} {w : V} : ∀ l, FzL a w l l
  | [] => .nil
  | _ :: l => .cons .same (FzL.refl l)
theorem FzL.append {a : Addr} {w : V} {l l' m m'} (h1 : FzL a w l l') (h : FzL a w m m') : FzL a w (l ++ m) (l' ++ m') :=
  FzL.rec (motive_1 := fun _ _ _ => True) (motive_2 := fun l l' _ => FzL a w (l ++ m) (l' ++ m')) trivial trivial (fun _ _ => trivial) (fun _ _ => trivial) h (fun q _ _ ih => .cons q ih) h1
/-- a cell of the ledger is made a value: in the names, in the ledger -/
inductive FzE (a : Addr) (w : V) : List (Str × Option V) → List (Str × Option V) → Prop
  | nil : FzE a w [] []
  | same {x l l'} : FzE a w l l' → FzE a w (x :: l) (x :: l')
  | cons {x d d' l l'} : Fz a w d d' → FzE a w l l' → FzE a w ((x, some d) :: l) ((x, some d') :: l')
  | drop {x u l l'} : FzE a w l l' → FzE a w ((x, u) :: l) ((x, none) :: l')
inductive FzM (a : Addr) (w : V) : List (Addr × Cell) → List (Addr × Cell) → Prop
  | rest {l} : FzM a w l l
  | same {x l l'} : FzM a w l l' → FzM a w (x :: l) (x :: l')
  | list {b d d' l l'} : FzL a w d d' → FzM a w l l' → FzM a w ((b, .list d) :: l) ((b, .list d') :: l')
theorem FzE.keys {a w l l'} (h : FzE a w l l') : l'.map (·.1) = l.map (·.1) := by
  induction h with
  | nil => rfl
  | same _ ih => rw [List.map_cons, List.map_cons, ih]
  | cons _ _ ih => rw [List.map_cons, List.map_cons, ih]
  | drop _ ih => rw [List.map_cons, List.map_cons, ih]
theorem FzM.keys {a w l l'} (h : FzM a w l l') : Mine.keys l' = Mine.keys l := by
  unfold Mine.keys
  induction h with
  | rest => rfl
  | same _ ih => rw [List.map_cons, List.map_cons, ih]
  | list _ _ ih => rw [List.map_cons, List.map_cons, ih]
theorem FzE.mem {a w l l'} (q : FzE a w l l') : ∀ y ov, (y, ov) ∈ l' → ∃ u, (y, u) ∈ l ∧ (ov = none ∨ ∃ d d', u = some d ∧ ov = some d' ∧ Fz a w d d') := by
  induction q with
  | nil => intro y ov h; exact absurd h List.not_mem_nil
  | same _ ih =>
    intro y ov h
    rcases List.mem_cons.mp h with h | h
    · subst h
      refine ⟨ov, .head _, ?_⟩
      cases ov with
      | none => exact .inl rfl
      | some d => exact .inr ⟨d, d, rfl, rfl, .same⟩
    · obtain ⟨u, hu, r⟩ := ih y ov h; exact ⟨u, .tail _ hu, r⟩
  | cons f _ ih =>
    intro y ov h
    rcases List.mem_cons.mp h with h | h
    · cases h; exact ⟨_, .head _, .inr ⟨_, _, rfl, rfl, f⟩⟩
    · obtain ⟨u, hu, r⟩ := ih y ov h; exact ⟨u, .tail _ hu, r⟩
  | drop _ ih =>
    intro y ov h
    rcases List.mem_cons.mp h with h | h
    · cases h; exact ⟨_, .head _, .inl rfl⟩
    · obtain ⟨u, hu, r⟩ := ih y ov h; exact ⟨u, .tail _ hu, r⟩
theorem FzM.mem {a w l l'} (q : FzM a w l l') : ∀ p, p ∈ l' → p ∈ l ∨ ∃ b d d', (b, Cell.list d) ∈ l ∧ p = (b, Cell.list d') ∧ FzL a w d d' := by
  induction q with
  | rest => exact fun p h => .inl h
  | same _ ih =>
    intro p h
    rcases List.mem_cons.mp h with h | h
    · exact .inl (h ▸ .head _)
    · rcases ih p h with h | ⟨b, d, d', h1, h2⟩
      · exact .inl (.tail _ h)
      · exact .inr ⟨b, d, d', .tail _ h1, h2⟩
  | list f _ ih =>
    intro p h
    rcases List.mem_cons.mp h with h | h
    · exact .inr ⟨_, _, _, .head _, h, f⟩
    · rcases ih p h with h | ⟨b, d, d', h1, h2⟩
      · exact .inl (.tail _ h)
      · exact .inr ⟨b, d, d', .tail _ h1, h2⟩

inductive Cut (a : Addr) (c : Cell) : List (Addr × Cell) → List (Addr × Cell) → Prop
  | here {l} : Cut a c ((a, c) :: l) l
  | tail {x l l'} : Cut a c l l' → Cut a c (x :: l) (x :: l')
theorem Cut.split {a c l l'} (h : Cut a c l l') : ∃ m1 m2, l = m1 ++ (a, c) :: m2 ∧ l' = m1 ++ m2 := by
  induction h with
  | here => exact ⟨[], _, rfl, rfl⟩
  | @tail x _ _ _ ih => obtain ⟨m1, m2, e1, e2⟩ := ih; exact ⟨x :: m1, m2, by rw [e1]; rfl, by rw [e2]; rfl⟩

structure Frz (a : Addr) (c : Cell) (σ σ' : St) : Prop where
  ns : c.isV = true
  mem : ∃ m, Cut a c σ.mem m ∧ FzM a (frozen c) m σ'.mem
  loc : FzE a (frozen c) σ.loc σ'.loc
  cel : FzE a (frozen c) σ.cel σ'.cel
  cap : σ'.cap = σ.cap

/-- a state in which values are told otherwise -/
theorem Rel.fz (r : Rel X σ Z s) {a : Addr} {w : V} (hw : VRel X.prog X.w Z w (.ref a)) {σ' : St} (hm : FzM a w σ.mem σ'.mem) (hl : FzE a w σ.loc σ'.loc) (hc : FzE a w σ.cel σ'.cel) (hp : σ'.cap = σ.cap) : Rel X σ' Z s := by
  have kl := hl.keys
  have kc := hc.keys
  have km := hm.keys
  have ft : foot X σ' = foot X σ := by unfold foot; rw [km]
  refine ⟨⟨by rw [kl]; exact r.fr.lnd, fun p hp' => ?_, fun p hp' => ?_, by rw [kc]; exact r.fr.cnd, by rw [kc]; exact r.fr.cinj, by rw [hp]; exact r.fr.pk, by rw [kl, kc, hp]; exact r.fr.dbg, r.fr.kind⟩, r.zin, r.st, r.ztab, r.old, r.os, r.gens, ?_, fun x ov hx => ?_, by rw [hp]; exact r.cap, r.ownc, fun p hp' => ?_, by rw [ft]; exact r.nd, by rw [ft]; exact r.zfoot, by rw [ft]; exact r.bfoot, by rw [ft]; exact r.ex, r.g3, by rw [km]; exact r.low⟩
  · obtain ⟨x, ov⟩ := p
    obtain ⟨u, hu, _⟩ := hl.mem x ov hp'
    exact r.fr.lk (x, u) hu
  · obtain ⟨x, ov⟩ := p
    obtain ⟨u, hu, _⟩ := hc.mem x ov hp'
    exact r.fr.ck (x, u) hu
  · obtain ⟨m, hn, hv⟩ := r.ns
    refine ⟨m, hn, fun x ov hx => ?_⟩
    obtain ⟨u, hu, q⟩ := hl.mem x ov hx
    have := hv x u hu
    rcases q with rfl | ⟨d, d', rfl, rfl, f⟩
    · trivial
    · obtain ⟨v, e, hr⟩ := this
      exact ⟨v, e, VRel.fz hw f hr⟩
  · obtain ⟨u, hu, q⟩ := hc.mem x ov hx
    obtain ⟨c, uo, h1, h2, h3, h4⟩ := r.cells x u hu
    refine ⟨c, uo, h1, h2, h3, ?_⟩
    rcases q with rfl | ⟨d, d', rfl, rfl, f⟩
    · trivial
    · obtain ⟨v, e, hr⟩ := h4
      exact ⟨v, e, VRel.fz hw f hr⟩
  · rcases hm.mem p hp' with h | ⟨b, d, d', h1, rfl, f⟩
    · exact r.mem _ h
    · obtain ⟨its, hp1, hr⟩ := r.mem _ h1
      exact ⟨its, hp1, VsRel.fz hw f hr⟩

theorem Ext.frz (x : Ext X σ Z s σ' Z' s') {a : Addr} {c : Cell} {σ2 : St} (f : Frz a c σ' σ2) : ∃ Z2, Ext X σ Z s σ2 Z2 s' ∧ Z'.le Z2 ∧ VRel X.prog X.w Z2 (frozen c) (.ref a) := by
  obtain ⟨hns, ⟨m, hcut, hm⟩, hl, hc, hp⟩ := f
  obtain ⟨m1, m2, e1, rfl⟩ := hcut.split
  have hin : (a, c) ∈ σ'.mem := by rw [e1]; simp
  obtain ⟨o, ho⟩ := x.rel.ex a (x.rel.nonempty hin)
  obtain ⟨y, hle⟩ := x.freeze e1 ho
  have hcell : CellRel X.prog X.w (Zput Z' a o) s'.heap a c := (x.rel.mem _ hin).mono hle fun o h => h
  have hlow : 3 < a := x.rel.low a (by rw [e1]; simp [Mine.keys])
  have hv := cell_frozen' (Zput.self) ho hlow hcell hns
  refine ⟨_, ?_, hle, hv⟩
  have r2 := y.rel.fz hv hm hl hc hp
  have km := hm.keys
  have ft : foot X σ2 = foot X { σ' with mem := m1 ++ m2 } := by unfold foot; rw [km]
  exact ⟨r2, y.le, y.keep, by rw [km]; exact y.new, y.znew⟩

/-- freeze, and go on -/
theorem J.frz {α β : Type} {R : ZM → β → α → Prop} {t : Sem α} {Q : β → St → Prop} {a c σ2} (f : Frz a c σ σ2) (h : J X R t σ2 Q) : J X R t σ Q := fun Z s r => by
  obtain ⟨Z2, x, _, _⟩ := (Ext.refl r).frz f
  exact h.after x
/-- freeze at the end -/
inductive FRZ (P : V → St → Prop) (d : V) (σ1 : St) : Prop
  | mk (a : Addr) (c : Cell) (σ2 : St) (d' : V) (f : Frz a c σ1 σ2) (hf : Fz a (frozen c) d d') (h : P d' σ2)
theorem EV.frz {e} (h : EV X e σ (FRZ P)) : EV X e σ P := fun Z s r =>
  wpAny_mono (h Z s r) (fun v s' h => by
    obtain ⟨Z1, σ1, d, x, hr, a, c, σ2, d', f, hf, hP⟩ := h
    obtain ⟨Z2, y, hle, hw⟩ := x.frz f
    exact hereV y (VRel.fz hw hf (hr.mono hle)) hP) fun _ _ h => h
inductive FzF (a : Addr) (w : V) : Fl → Fl → Prop
  | same {f} : FzF a w f f
  | ret {d d'} : Fz a w d d' → FzF a w (.ret d) (.ret d')
inductive FRX (Q : Fl → St → Prop) (fl : Fl) (σ1 : St) : Prop
  | mk (a : Addr) (c : Cell) (σ2 : St) (fl' : Fl) (f : Frz a c σ1 σ2) (hf : FzF a (frozen c) fl fl') (h : Q fl' σ2)
theorem EX.frz {b} {Q : Fl → St → Prop} (h : EX X b σ (FRX Q)) : EX X b σ Q := fun Z s r =>
  wpAny_mono (h Z s r) (fun v s' h => by
    obtain ⟨Z1, σ1, fl, x, hr, a, c, σ2, fl', f, hf, hP⟩ := h
    obtain ⟨Z2, y, hle, hw⟩ := x.frz f
    refine ⟨_, _, fl', y, ?_, hP⟩
    cases hf with
    | same =>
      cases fl with
      | ret d => obtain ⟨u, e, hu⟩ := hr; exact ⟨u, e, hu.mono hle⟩
      | _ => exact hr
    | ret q => obtain ⟨u, e, hu⟩ := hr; exact ⟨u, e, VRel.fz hw q (hu.mono hle)⟩) fun _ _ h => h
end
end Mine
end
section
open PySem PySem.Spec PySem.Calls PyProof.Rows PySem.W PySem.SeqAt
namespace Mine
section
variable {X : Cx} {σ σ' : St} {Z Z' : ZM} {s s' : Shared} {P : V → St → Prop}

/-- an object that was not there is a value -/
theorem Ext.addZ (r : Rel X σ Z s) (x : Ext X σ Z s σ Z s') {B : Addr} {o : Obj} (ho : s'.heap.get? B = some o) (hn : s.heap.get? B = none) : Ext X σ Z s σ (Zput Z B o) s' ∧ Z.le (Zput Z B o) := by
  have zB : Z B = none := by
    cases e : Z B with
    | none => rfl
    | some o' => rw [r.zin _ _ e] at hn; cases hn
  have hB : B ∉ foot X σ := fun h => by obtain ⟨o', e⟩ := r.ex B h; rw [e] at hn; cases hn
  have bB : X.base.get? B = none := by
    cases e : X.base.get? B with
    | none => rfl
    | some o' => obtain ⟨o2, h2⟩ := r.old.there _ _ e; rw [h2] at hn; cases hn
  have le : Z.le (Zput Z B o) := Zput.le fun o' e => by rw [zB] at e; cases e
  have q := x.rel
  have zout : ∀ b, b ≠ B → Zput Z B o b = Z b := fun b hb => by simp [Zput, hb]
  refine ⟨⟨⟨q.fr, fun b ob e => ?_, fun b ob e hb => le _ _ (q.st b ob e hb), fun b hb => ?_, q.old, q.os, q.gens, ?_, fun y ov hy => ?_, fun y d hy => ?_, q.ownc, fun p hp => (q.mem p hp).mono le fun _ h => h, q.nd, fun b hb => ?_, q.bfoot, q.ex, ?_, q.low⟩, le, x.keep, x.new, fun b ob e => ?_⟩, le⟩
  · by_cases hb : b = B
    · subst hb; rw [Zput.self] at e; cases e; exact ho
    · rw [zout b hb] at e; exact q.zin _ _ e
  · by_cases hb' : b = B
    · subst hb'; obtain ⟨ob, vs, e, _⟩ := hb; rw [bB] at e; cases e
    · rw [zout b hb']; exact q.ztab b hb
  · obtain ⟨m, hm, hv⟩ := q.ns
    exact ⟨m, hm, fun y ov hy => (hv y ov hy).mono le⟩
  · obtain ⟨c, uo, h1, h2, h3, h4⟩ := q.cells y ov hy
    exact ⟨c, uo, h1, h2, h3, h4.mono le⟩
  · obtain ⟨c, ob, v, h1, h2, h3, h4⟩ := q.cap y d hy
    exact ⟨c, ob, v, h1, le _ _ h2, h3, h4.mono le⟩
  · rw [zout b fun h => hB (h ▸ hb)]; exact q.zfoot b hb
  · obtain ⟨ob, e⟩ := q.g3; exact ⟨ob, le _ _ e⟩
  · by_cases hb : b = B
    · subst hb; exact .inr (.inr hn)
    · rw [zout b hb] at e; exact .inl e

/-! str -/
theorem CMP.inS {x : Str} {c : Nat} (h : P (.bool (decide (c ∈ x.cps.toList))) σ) : CMP X .In (.str ⟨#[c]⟩) (.str x) σ P := fun Z s v u r h1 h2 => by
  obtain ⟨t, rfl⟩ := h1
  obtain ⟨t', rfl⟩ := h2
  refine PyProof.Rows.in_str ?_
  rw [PySem.StrLaws.found_one]
  exact hereV (Ext.refl r) vr_bool h
theorem VsRel.signs {prog w Z} : ∀ (l : List Nat) (vs : List Value), vs.length = l.length → (∀ (j c : Nat) (v : Value), l[j]? = some c → vs[j]? = some v → ∃ u : Tok, v = Value.str ⟨#[c]⟩ u) → VsRel prog w Z (l.map fun c => V.str ⟨#[c]⟩) vs := fun l vs hl h =>
  VsRel.of_get (by simp [hl]) fun i d v h1 h2 => by
    rw [List.getElem?_map, Option.map_eq_some_iff] at h1
    obtain ⟨c, hc, rfl⟩ := h1
    obtain ⟨u, rfl⟩ := h i c v hc h2
    exact vr_str
theorem CALL.listS {x : Str} (hA : X.A.handled = none) (hs : x.length ≤ sizeLine) (h : P (.list (signV x)) σ) : CALL X (.type "list") [.str x] σ P := fun Z s vs r hvs => by
  obtain ⟨v, rfl, t, rfl⟩ := vs1 hvs
  refine call_list_str hA x t (fun h' tk acc' c' hk ho hacc => ?_) hs
  obtain ⟨y, hle⟩ := Ext.addZ r (Ext.keepAll (tk := tk) r hk) (B := s.heap.objs.size) ho (Heap.get?_none_of_le (Nat.le_refl _))
  refine hereV y (vr_list (l := signV x) Zput.self ?_) h
  refine VsRel.signs _ _ (by simp [hacc.1]) fun j c v h1 h2 => ?_
  obtain ⟨c', u, hc, rfl⟩ := hacc.2 j v (by simpa using h2)
  have : x.cps[j]? = some c := by simpa using h1
  rw [this] at hc; cases hc
  exact ⟨u, rfl⟩
theorem CALL.listD {ks : List Str} {l : List V} (hA : X.A.handled = none) (hs : ks.length ≤ 16777216) (h : P (.list (ks.map V.str)) σ) : CALL X (.type "list") [.sdict ks l] σ P := fun Z s vs r hvs => by
  obtain ⟨v, rfl, a, us, rfl, lo, z, hl, hr⟩ := vs1 hvs
  obtain ⟨m, hn, hm⟩ := r.ns
  have hd := r.pdict z
  obtain ⟨o, es, ep, ho, hq⟩ := id hd
  have hne : a ≠ X.env.locals := fun e => by
    obtain ⟨o', es', ep', hz, _⟩ := z
    rw [e, r.zfoot _ List.mem_cons_self] at hz; cases hz
  have hk : (ks.zip us).map (·.1) = ks := zip_keys hl
  refine kdl_list_keysS hA (r.frame hn) r.news (mem_allNews.mpr ⟨ho, hne⟩) (o := o) (kvs := ks.zip us) ⟨es, ep, hq⟩ (no_sys lo) (by rw [List.length_zip]; omega) fun B c h' tk => ?_
  have fin : ∀ vs : List Value, VsRel X.prog X.w Z (ks.map V.str) vs → Fr noHeap X.env.locals h' m → News noHeap X.env.locals h' ((B, listOf vs.toArray c) :: allNews s.heap X.env.locals) → (∀ q ∈ allNews s.heap X.env.locals, q.1 < B) → Post X (RV X) σ Z s P (.ref B) { s with heap := h', toks := tk } := fun vs hv F N hB => by
    have ex : Ext X σ Z s σ Z { s with heap := h', toks := tk } := Ext.ofFr r hm F fun p hp => N p (.tail _ hp)
    have hBn : s.heap.get? B = none := by
      cases e : s.heap.get? B with
      | none => rfl
      | some ob => exact absurd (hB (B, ob) (mem_allNews.mpr ⟨e, (N _ (.head _)).2.1⟩)) (Nat.lt_irrefl _)
    obtain ⟨y, hle⟩ := Ext.addZ r ex (N _ (.head _)).1 hBn
    exact hereV y (vr_list Zput.self (vs_arr (VsRel.mono hle hv))) h
  have go : ∀ (kvs : List (Str × Value)) (C : List Value → Prop), (∀ vs, VsRel X.prog X.w Z ((kvs.map (·.1)).map V.str) vs → C vs) → KdlKeysS kvs C := by
    intro kvs
    induction kvs with
    | nil => intro C hC; exact hC [] rfl
    | cons q r ih => intro C hC t; exact ih _ fun vs hv => hC _ ⟨_, vs, rfl, vr_str, hv⟩
  exact go _ _ fun vs hv => fin vs (by rw [hk] at hv; exact hv)
theorem CALL.sorted {l : List Int} (hs : l.length < 64) (h : ∀ l' : List Int, l'.Perm l → l'.Pairwise (· ≤ ·) → P (.list (l'.map V.int)) σ) : CALL X (.builtin "sorted") [.list (l.map V.int)] σ P := fun Z s vs r hvs => by
  obtain ⟨v, rfl, a, its, n, rfl, z, hr⟩ := vs1 hvs
  obtain ⟨m, hn, hm⟩ := r.ns
  obtain ⟨xs, hx, rfl⟩ := VsRel.ints hr
  have ia : ∀ xs : List (Int × Tok), IntsAre (xs.map fun p => Value.int p.1 p.2) (xs.map (·.1)) := fun xs => by
    induction xs with
    | nil => exact .nil
    | cons q r ih => exact .cons _ _ ih
  have ii : ∀ (vs : List Value) (l : List Int), IntsAre vs l → VsRel X.prog X.w Z (l.map V.int) vs := fun vs l hv => by
    induction hv with
    | nil => rfl
    | cons n t _ ih => exact ⟨_, _, rfl, vr_int, ih⟩
  refine sorted_N (r.frame hn) r.news (vs := its.toList) (by simpa using (r.plist z).isList) (hx ▸ ia xs) (by rw [hx]; simpa using hs) fun h' vs' ns' e F N hI hp hw => ?_
  have ex : Ext X σ Z s σ Z { s with heap := h', toks := s.toks } := Ext.ofFr r hm F fun p hp => N p (.tail _ hp)
  obtain ⟨y, hle⟩ := Ext.addZ r ex (N _ (.head _)).1 (Heap.get?_none_of_le (Nat.le_succ _))
  exact hereV y (vr_list Zput.self (vs_arr (VsRel.mono hle (ii _ _ hI)))) (h ns' hp hw)
end
end Mine
end
section
open PySem PySem.Spec PySem.Calls PyProof.Rows PySem.W PySem.SeqAt
namespace Mine
section
variable {X : Cx} {σ σ' : St} {Z Z' : ZM} {s s' : Shared} {P : V → St → Prop}

/-! dicts: keys and values side by side -/
section
variable {K : Type} [DecidableEq K] {β γ : Type}
noncomputable def vat (ks : List K) (l : List β) (k : K) : Option β := ((ks.zip l).find? fun p => p.1 = k).map (·.2)
noncomputable def kput (ks : List K) (k : K) : List K := if k ∈ ks then ks else ks ++ [k]
noncomputable def vput (ks : List K) (l : List β) (k : K) (d : β) : List β := if k ∈ ks then List.zipWith (fun k' d' => if k' = k then d else d') ks l else l ++ [d]
theorem vat_nil {ks : List K} {k : K} : vat ks ([] : List β) k = none := by cases ks <;> rfl
theorem vat_cons {a : K} {ks : List K} {b : β} {l : List β} {k : K} : vat (a :: ks) (b :: l) k = if a = k then some b else vat ks l k := by
  unfold vat; rw [List.zip_cons_cons, List.find?_cons]; split
  · rename_i h; simp at h; simp [h]
  · rename_i h; simp at h; simp [h]
theorem VsRel.vat {ks : List K} : ∀ {l : List V} {vs : List Value} {k : K} {d : V}, VsRel X.prog X.w Z l vs → Mine.vat ks l k = some d → ∃ v, Mine.vat ks vs k = some v ∧ VRel X.prog X.w Z d v := by
  induction ks with
  | nil => intro l vs k d _ h; cases h
  | cons a ks ih =>
    intro l vs k d hr h
    cases l with
    | nil => rw [vat_nil] at h; cases h
    | cons b l =>
      obtain ⟨v, r, rfl, hv, hq⟩ := hr
      rw [vat_cons] at h ⊢
      split at h
      · rename_i e; rw [if_pos e]; cases h; exact ⟨v, rfl, hv⟩
      · rename_i e; rw [if_neg e]; exact ih hq h
theorem vat_valueAt {ks : List K} {us : List Value} {k : K} : valueAt (ks.zip us) k = vat ks us k := rfl
theorem vat_some {ks : List K} {l : List β} {k : K} (h : ks.length = l.length) : (vat ks l k).isSome = decide (k ∈ ks) := by
  induction ks generalizing l with
  | nil => rfl
  | cons a ks ih =>
    cases l with
    | nil => simp at h
    | cons b l =>
      rw [vat_cons]
      split
      · rename_i e; simp [e]
      · rename_i e; rw [ih (by simpa using h)]; simp [Ne.symm e]
theorem stored_zip {ks : List K} {us : List Value} {k : K} {v : Value} (h : ks.length = us.length) : stored (ks.zip us) k v = (kput ks k).zip (vput ks us k v) := by
  have hany : ((ks.zip us).any fun kv => kv.1 = k) = decide (k ∈ ks) := by
    have e : ((ks.zip us).any fun kv => kv.1 = k) = ((ks.zip us).map (·.1)).any fun k' => k' = k := by rw [List.any_map]; rfl
    rw [e, zip_keys h, Bool.eq_iff_iff]; simp
  unfold stored kput vput
  rw [hany]
  by_cases hm : k ∈ ks
  · simp only [hm, decide_true, if_true]
    clear hany hm
    induction ks generalizing us with
    | nil => rfl
    | cons a ks ih =>
      cases us with
      | nil => simp at h
      | cons b us =>
        simp only [List.zip_cons_cons, List.map_cons, List.zipWith_cons_cons]
        rw [ih (by simpa using h)]
        congr 1
        split <;> rfl
  · simp only [hm, decide_false, Bool.false_eq_true, if_false]
    rw [List.zip_append h]; rfl
theorem put_len {ks : List K} {l : List β} {k : K} {d : β} (h : ks.length = l.length) : (kput ks k).length = (vput ks l k d).length := by
  unfold kput vput; split <;> simp [h]
theorem VsRel.vput {ks : List K} {l : List V} {vs : List Value} {k : K} {d : V} {v : Value} (hr : VsRel X.prog X.w Z l vs) (hd : VRel X.prog X.w Z d v) : VsRel X.prog X.w Z (Mine.vput ks l k d) (Mine.vput ks vs k v) := by
  unfold Mine.vput
  split
  · rename_i hmem; clear hmem
    induction ks generalizing l vs with
    | nil => rfl
    | cons a ks ih =>
      cases l with
      | nil => cases hr; rfl
      | cons b l =>
        obtain ⟨u, r, rfl, hu, hq⟩ := hr
        refine ⟨_, _, rfl, ?_, ih hq⟩
        dsimp only
        split
        · exact hd
        · exact hu
  · exact hr.append ⟨v, [], rfl, hd, rfl⟩
end

theorem isKI {prog w} {k : Int} {t : Tok} : (PySem.intKind prog w).is k (.int k t) = true := by
  show Value.isInt k (.int k t) = true
  simp [Value.isInt]
theorem isKS {prog w} {k : Str} {t : Tok} : (PySem.strKind prog w).is k (.str k t) = true := by
  show Value.isStrOf k (.str k t) = true
  simp [Value.isStrOf]
theorem vr_view {prog w Z a da d} {b : Bool} (h : Z a = some { cls := .type (if b then "dict_items" else "dict_values"), data := .fields #[.ref da] }) (hd : VRel prog w Z d (.ref da)) : VRel prog w Z (.view b d) (.ref a) := ⟨a, da, rfl, h, hd⟩
theorem SUB.sdict {ks : List Str} {l : List V} {k : Str} {d : V} (hd : vat ks l k = some d) (h : P d σ) : SUB X (.sdict ks l) (.str k) σ P := fun Z s v1 v2 r h1 h2 => by
  obtain ⟨a, us, rfl, lo, z, hl, hr⟩ := h1
  obtain ⟨t, rfl⟩ := h2
  obtain ⟨v, hv, hvr⟩ := hr.vat hd
  have hm := r.pdict z
  refine ⟨⟨_, _, hm.typeIs, F.slot_dict_getitem.lookup⟩, ?_⟩
  exact wpAny_getItem_of (knd := PySem.strKind X.prog X.w) (k := k) isKS hm.mapOf hv (hereV (Ext.refl r).toks hvr h)
theorem SUB.icell {a : Addr} {ks : List Int} {l : List V} {k : Int} {d : V} (hm : (a, Cell.idict ks l) ∈ σ.mem) (hd : vat ks l k = some d) (h : P d σ) : SUB X (.ref a) (.int k) σ P := fun Z s v1 v2 r h1 h2 => by
  cases h1
  obtain ⟨t, rfl⟩ := h2
  obtain ⟨us, hdict, hl, hr⟩ := r.mem _ hm
  obtain ⟨v, hv, hvr⟩ := hr.vat hd
  refine ⟨⟨_, _, hdict.typeIs, F.slot_dict_getitem.lookup⟩, ?_⟩
  exact wpAny_getItem_of (knd := PySem.intKind X.prog X.w) (k := k) isKI hdict.mapOf hv (hereV (Ext.refl r).toks hvr h)
theorem CMP.inIC {a : Addr} {ks : List Int} {l : List V} {k : Int} (hm : (a, Cell.idict ks l) ∈ σ.mem) (h : P (.bool (decide (k ∈ ks))) σ) : CMP X .In (.int k) (.ref a) σ P := fun Z s v1 v2 r h1 h2 => by
  cases h2
  obtain ⟨t, rfl⟩ := h1
  obtain ⟨us, hdict, hl, hr⟩ := r.mem _ hm
  refine wpAny_in_of (knd := PySem.intKind X.prog X.w) (k := k) isKI (no_sys (r.low a (List.mem_map_of_mem (f := (·.1)) hm))) hdict.mapOf (hereV (Ext.refl r).toks ?_ h)
  rw [vat_valueAt, vat_some hl]; exact vr_bool
theorem SETI.icell {a : Addr} {ks : List Int} {l : List V} {k : Int} {d : V} {Q : St → Prop} {mem'} (hm : (a, Cell.idict ks l) ∈ σ.mem) (hs : ks.length ≤ sizeLine) (hu : UpM a (.idict (kput ks k) (vput ks l k d)) σ.mem mem') (h : Q { σ with mem := mem' }) :
    SETI X (.ref a) (.int k) d σ Q := fun Z s v1 v2 v3 r h1 h2 h3 => by
  cases h1
  obtain ⟨t, rfl⟩ := h2
  obtain ⟨us, hdict, hl, hr⟩ := r.mem _ hm
  refine wpAny_setItem_pairs (knd := PySem.intKind X.prog X.w) (k := k) isKI hdict (fun h' hd' hs' => ?_) (by rw [List.length_zip]; omega)
  rw [stored_zip hl] at hd'
  exact ⟨_, _, (), (r.setMem hu hs' ⟨_, hd', put_len hl, VsRel.vput hr h3⟩).toks, rfl, h⟩

/-! views -/
theorem CALL.iitems {ks : List Int} {l : List V} (h : P (.view true (.idict ks l)) σ) : CALL X (.builtin "dict.items") [.idict ks l] σ P := fun Z s vs r hvs => by
  obtain ⟨v, rfl, a, us, rfl, lo, z, hl, hr⟩ := vs1 hvs
  have hd := r.pdict z
  refine call_meetsIn PySem.F.slot_dict_items hd.typeIs PySem.F.entry_dict_items (PySem.F.args_dict_items_1 _) (meets_dict_items (PySem.intKind X.prog X.w) a (no_sys lo)) ⟨⟨_, hd⟩, ?_⟩
  obtain ⟨x, hle⟩ := (Ext.refl r).pushZ { cls := .type "dict_items", data := .fields #[.ref a] }
  exact hereV x (vr_view Zput.self (VRel.mono hle (show VRel X.prog X.w Z (.idict ks l) (.ref a) from ⟨a, us, rfl, lo, z, hl, hr⟩))) h
theorem CALL.ivalues {ks : List Int} {l : List V} (h : P (.view false (.idict ks l)) σ) : CALL X (.builtin "dict.values") [.idict ks l] σ P := fun Z s vs r hvs => by
  obtain ⟨v, rfl, a, us, rfl, lo, z, hl, hr⟩ := vs1 hvs
  have hd := r.pdict z
  refine call_meetsIn PySem.F.slot_dict_values hd.typeIs PySem.F.entry_dict_values (PySem.F.args_dict_values_1 _) (meets_dict_values (PySem.intKind X.prog X.w) a (no_sys lo)) ⟨⟨_, hd⟩, ?_⟩
  obtain ⟨x, hle⟩ := (Ext.refl r).pushZ { cls := .type "dict_values", data := .fields #[.ref a] }
  exact hereV x (vr_view Zput.self (VRel.mono hle (show VRel X.prog X.w Z (.idict ks l) (.ref a) from ⟨a, us, rfl, lo, z, hl, hr⟩))) h

/-! more of str -/
theorem SUB.sliceS {x : Str} {lo hi : Option Int} (hs : x.length ≤ sizeLine) (h : P (.str (PySem.StrLaws.sliceText x lo hi)) σ) : SUB X (.str x) (.slc lo hi none) σ P := fun Z s v1 v2 r h1 h2 => by
  obtain ⟨t, rfl⟩ := h1
  obtain ⟨a, lv, uv, sv, rfl, z, p1, p2, p3⟩ := h2
  cases p3
  obtain ⟨l', e1, e1'⟩ : ∃ l' : Option (Int × Tok), lv = partValue l' ∧ l'.map (·.1) = lo := by cases p1 with | none => exact ⟨none, rfl, rfl⟩ | int i t => exact ⟨some (i, t), rfl, rfl⟩
  obtain ⟨u', e2, e2'⟩ : ∃ u' : Option (Int × Tok), uv = partValue u' ∧ u'.map (·.1) = hi := by cases p2 with | none => exact ⟨none, rfl, rfl⟩ | int i t => exact ⟨some (i, t), rfl, rfl⟩
  subst e1 e2 e1' e2'
  refine ⟨⟨_, _, typeIs_str _ _ _, F.slot_str_getitem.lookup⟩, ?_⟩
  refine wpAny_getItem_str_slice (l := l') (u := u') (st := none) ⟨_, r.zin _ _ z, rfl, rfl⟩ rfl ?_
  unfold sliceMade
  unfold PySem.StrLaws.sliceText at h
  unfold slicePicked
  simp only [Option.map_none, Option.getD_none] at h ⊢
  by_cases hc : ((1 : Int) == 1 && (Builtin.Str.strSliceIndices (l'.map (·.1)) (u'.map (·.1)) 1 x.length).length == x.length) = true
  · rw [if_pos hc] at h ⊢
    exact hereV (Ext.refl r) vr_str h
  · rw [if_neg hc] at h ⊢
    refine ⟨?_, hereV (Ext.refl r).toks vr_str h⟩
    have h1 := sliceIndices_le (l'.map (·.1)) (u'.map (·.1)) x.length
    have h2 := List.length_filterMap_le (x.cps[·]?) (Builtin.Str.strSliceIndices (l'.map (·.1)) (u'.map (·.1)) 1 x.length)
    show Array.size (List.toArray _) ≤ sizeLine
    rw [List.size_toArray]
    omega
theorem VsRel.strs {Z : ZM} : ∀ {l : List Str} {vs : List Value}, VsRel X.prog X.w Z (l.map V.str) vs → StrsAre vs l
  | [], _, h => by cases h; exact .nil
  | i :: l, _, ⟨v, r, e, ⟨t, ht⟩, q⟩ => by subst e; subst ht; exact .cons _ _ (VsRel.strs q)
theorem CALL.join {x : Str} {ys : List Str} (hok : (ys.map (·.length)).sum + ys.length * x.length ≤ 16777216) (h : P (.str (Txt.join x ys)) σ) : CALL X (.builtin "str.join") [.str x, .list (ys.map V.str)] σ P := fun Z s vs r hvs => by
  obtain ⟨v, u, rfl, ⟨t, rfl⟩, a, its, n, rfl, z, hr⟩ := vs2 hvs
  exact join_list (r.plist z).isList (VsRel.strs hr) hok fun t' k => hereV (Ext.refl r).toks vr_str h
theorem CALL.scount {x y : Str} (h : P (.int (Builtin.Str.occurrences x y 0 x.length (x.length + 1)).length) σ) : CALL X (.builtin "str.count") [.str x, .str y] σ P := fun Z s vs r hvs => by
  obtain ⟨v, u, rfl, ⟨t, rfl⟩, ⟨t', rfl⟩⟩ := vs2 hvs
  exact call_gives F.slot_str_count (typeIs_str _ _ _) F.entry_str_count (F.args_str_count_2 _ _) (gives_str_count x y t t') (hereV (Ext.refl r).toks vr_int h)
/-! isinstance, all -/
theorem CALL.isiBB {b : Bool} (h : P (.bool true) σ) : CALL X (.builtin "isinstance") [.bool b, .lit (.type "bool")] σ P := fun Z s vs r hvs => by
  obtain ⟨v, u, rfl, e, e'⟩ := vs2 hvs
  cases e; cases e'
  exact PySem.IsiPair.bool_bool (hereV (Ext.refl r) vr_bool h)
theorem CALL.isiIT {b : Int} (h : P (.bool false) σ) : CALL X (.builtin "isinstance") [.int b, .lit (.type "tuple")] σ P := fun Z s vs r hvs => by
  obtain ⟨v, u, rfl, ⟨t, rfl⟩, e'⟩ := vs2 hvs
  cases e'
  exact PySem.IsiPair.int_tuple (hereV (Ext.refl r).toks vr_bool h)
theorem CALL.all {l : List Bool} (hA : X.A.handled = none) (h : P (.bool (l.all id)) σ) : CALL X (.builtin "all") [.list (l.map V.bool)] σ P := fun Z s vs r hvs => by
  obtain ⟨v, rfl, a, its, n, rfl, z, hr⟩ := vs1 hvs
  have hlt := Heap.lt_size (r.zin _ _ z)
  have hsz := hr.length'
  refine call_all_walk (wpAny_pyIter_list (r.plist z).isList ?_)
  have hp : ∀ {o}, (s.heap.push o).get? a = some { cls := .type "list", data := .seq its n } := fun {o} => Heap.get?_push_of_some _ (r.zin _ _ z)
  refine ⟨_, _, _, _, _, _, fun i => (l[i]?).getD true, rfl, Walks.list (A := X.A.in1) hA s.heap.objs.size a (Nat.ne_of_lt hlt) its, ⟨⟨_, Heap.get?_push_size _ rfl, rfl, rfl⟩, _, hp, rfl, n, rfl⟩, ?_, fun h' tk hk => ?_⟩
  · intro i v s' Q E hi hQ
    have hi' : its.toList[i]? = some v := by simpa using hi
    have hlt : i < l.length := by
      have := (List.getElem?_eq_some_iff.mp hi').1
      simp at this hsz; omega
    have e : (l.map V.bool)[i]? = some (.bool l[i]) := by simp [hlt]
    obtain ⟨v', hv', hvr⟩ := hr.get e
    rw [hi'] at hv'; cases hv'; cases hvr
    have : (l[i]?).getD true = l[i] := by simp [hlt]
    dsimp only at hQ
    rw [this] at hQ
    exact wpAny_truthy_bool hQ
  · have e : (List.range its.size).all (fun i => (l[i]?).getD true) = l.all id := by
      have hl : its.size = l.length := by simpa using hsz
      rw [hl, Bool.eq_iff_iff, List.all_eq_true, List.all_eq_true]
      constructor
      · intro q x hx
        obtain ⟨j, hj, rfl⟩ := List.mem_iff_getElem.mp hx
        have := q j (List.mem_range.mpr hj)
        simpa [hj] using this
      · intro q j hj
        have hj := List.mem_range.mp hj
        have := q _ (List.getElem_mem hj)
        simpa [hj] using this
    rw [e]
    exact hereV (Ext.keepAll r fun b o' e' => hk b o' (fun h => by simp at h; subst h; exact absurd (Heap.lt_size e') (Nat.lt_irrefl _)) (Heap.get?_push_of_some _ e')) vr_bool h
end
end Mine
end
section
open PySem PySem.Spec PySem.Calls PyProof.Rows PySem.W PySem.SeqAt
namespace Mine
section
variable {X : Cx} {σ σ' : St} {Z Z' : ZM} {s s' : Shared} {P : V → St → Prop}

/-! x op= e -/
noncomputable def LN (X : Cx) (x : Str) (σ : St) (P : V → St → Prop) : Prop := J X (RV X) (loadName X.env x) σ P
theorem LN.loc {x d} (hm : (x, some d) ∈ σ.loc) (h : P d σ) : LN X x σ P := fun Z s r => by
  obtain ⟨m, hn, hv⟩ := r.ns
  obtain ⟨v, hx, hr⟩ := hv _ _ hm
  exact wpAny_loadName_local r.fr.kind (r.fr.lk _ hm) hn hx (here (b := d) (Ext.refl r) hr h)
theorem INP.add {a b} (h : P (.int (a + b)) σ) : INP X .Add (.int a) (.int b) σ P := fun Z s v1 v2 r ⟨t, e1⟩ ⟨u, e2⟩ => by
  subst e1 e2; exact PyProof.Rows.iadd_int (hereV (Ext.refl r).toks vr_int h)
theorem INP.adds {a b : Str} (h : P (.str (a ++ b)) σ) (hz : a.length + b.length ≤ sizeLine) : INP X .Add (.str a) (.str b) σ P := fun Z s v1 v2 r ⟨t, e1⟩ ⟨u, e2⟩ => by
  subst e1 e2; exact PyProof.Rows.iadd_str (fun t' tk => hereV (Ext.refl r).toks vr_str h) hz
theorem ES.augN {x pos' op value pos} {Q : Fl → St → Prop} (h : LN X x σ fun old σ1 => EV X value σ1 fun d σ2 => INP X op old d σ2 fun r σ3 => SN X x r σ3 (Q .next)) : ES X (.AugAssign (.Name x pos') op value pos) σ Q := fun Z s r =>
  wpAny_AugAssign_Name (J.use h r fun Z1 s1 σ1 d1 v1 x1 r1 h1 => J.use h1 x1.rel fun Z2 s2 σ2 d2 v2 x2 r2 h2 =>
    wpPost (h2 Z2 s2 v1 v2 x2.rel (r1.mono x2.le) r2) (fun Z3 s3 σ3 d3 v3 x3 r3 h3 =>
      wpPost (h3 Z3 s3 v3 x3.rel r3) (fun Z4 s4 σ4 b _ x4 _ h4 => here (((x1.trans x2).trans x3).trans x4) rfl_next h4)))
theorem ES.augSub {o i value : PySem.Expr} {tpos pos : Pos} {op : Operator} {Q : Fl → St → Prop}
    (h : EV X o σ fun od σ1 => EV X i σ1 fun id σ2 => SUB X od id σ2 fun old σ3 => EV X value σ3 fun d σ4 => INP X op old d σ4 fun r σ5 => SETI X od id r σ5 (Q .next))
    (hi : ∀ ov iv new, augStore i ov iv new = (do holding [new, ov, iv] (setItem ov iv new); release [new, ov, iv] []; pure .next) := by intros; rfl) : ES X (.AugAssign (.Subscript o i tpos) op value pos) σ Q := fun Z s r =>
  wpAny_AugAssign_SubscriptAny (J.use h r fun Z1 s1 σ1 d1 v1 x1 r1 h1 => J.use h1 x1.rel fun Z2 s2 σ2 d2 v2 x2 r2 h2 => by
    have r1' := r1.mono x2.le
    refine wpAny_mono (h2 Z2 s2 v1 v2 x2.rel r1' r2).2 (fun v3 s3 ⟨Z3, σ3, d3, x3, r3, h3⟩ => ?_) fun _ _ h => h
    refine J.use h3 x3.rel fun Z4 s4 σ4 d4 v4 x4 r4 h4 => ?_
    refine wpPost (h4 Z4 s4 v3 v4 x4.rel (r3.mono x4.le) r4) (fun Z5 s5 σ5 d5 v5 x5 r5 h5 => ?_)
    have le : Z2.le Z5 := fun a o e => x5.le a o (x4.le a o (x3.le a o e))
    refine wpPost (h5 Z5 s5 v1 v2 v5 x5.rel (r1'.mono le) (r2.mono le) r5) (fun Z6 s6 σ6 b _ x6 _ h6 => ?_)
    exact here (((((x1.trans x2).trans x3).trans x4).trans x5).trans x6) rfl_next h6) hi

/-! {k : v for ..} -/
noncomputable def putAll {K : Type} [DecidableEq K] {β : Type} : List (K × β) → List K × List β → List K × List β
  | [], a => a
  | p :: l, (ks, vs) => putAll l (kput ks p.1, vput ks vs p.1 p.2)
theorem putAll_append {K : Type} [DecidableEq K] {β : Type} : ∀ (l l' : List (K × β)) (a : List K × List β), putAll (l ++ l') a = putAll l' (putAll l a)
  | [], _, _ => rfl
  | p :: l, l', (ks, vs) => putAll_append l l' _
theorem kput_len {K : Type} [DecidableEq K] (ks : List K) (k : K) : (kput ks k).length ≤ ks.length + 1 := by unfold kput; split <;> simp
theorem putAll_len {K : Type} [DecidableEq K] {β : Type} : ∀ (l : List (K × β)) (a : List K × List β), (putAll l a).1.length ≤ a.1.length + l.length
  | [], a => by simp [putAll]
  | p :: l, (ks, vs) => by
    have h1 := putAll_len l (kput ks p.1, vput ks vs p.1 p.2)
    have h2 := kput_len ks p.1
    simp only [putAll, List.length_cons] at h1 ⊢
    omega

theorem IN.puti {kx vx gens scope pos k} {D : Addr} {m ks vs i F} {σ₀ : St} (hg : gens[k + 1]? = none) (hl : ks.length ≤ sizeLine)
    (h : EV X kx σ fun d σ1 => d = .int i ∧ EV X vx σ1 fun d σ2 => d = F ∧ Back σ₀ (m ++ [(D, Cell.idict ks vs)]) σ2) : IN X (.DictComp kx vx gens scope pos) k (.ref D) σ (Back σ₀ (m ++ [(D, .idict (kput ks i) (vput ks vs i F))])) := fun Z s K R r hK => by
  unfold innerT
  have hg' : (clausesOf (PySem.Expr.DictComp kx vx gens scope pos))[k + 1]? = none := hg
  rw [hg']
  show wpAny _ _ ((eval kx X.env >>= fun kv => holding [kv] (eval vx X.env) >>= fun vv => standAt _ >>= fun _ => holding [kv, vv] (dictSet D kv vv)) >>= fun _ => K) _ _ s
  refine wpAny_bind (wpAny_bind (J.use h r fun Z1 s1 σ1 d v x1 r1 h1 => ?_))
  obtain ⟨rfl, h1⟩ := h1
  refine wpAny_bind (wpAny_holding (J.use h1 x1.rel fun Z2 s2 σ2 d2 v2 x2 r2 h2 => ?_))
  obtain ⟨rfl, hb1, hb2, hb3, hb4⟩ := h2
  obtain ⟨t, rfl⟩ := r1
  refine wpAny_bind (wpAny_standAt (wpAny_holding ?_))
  have hm : (D, Cell.idict ks vs) ∈ σ2.mem := by rw [hb4]; simp
  obtain ⟨us, hdict, hlen, hr⟩ := x2.rel.mem _ hm
  refine wpAny_dictSet_pairs (knd := PySem.intKind X.prog X.w) (k := i) isKI hdict (fun h' hd' hs' => ?_) (by rw [List.length_zip]; omega)
  rw [stored_zip hlen] at hd'
  have hu : UpM D (.idict (kput ks i) (vput ks vs i d2)) σ2.mem (m ++ [(D, .idict (kput ks i) (vput ks vs i d2))]) := by rw [hb4]; exact UpM.last m
  exact hK _ _ _ ((x1.trans x2).trans (x2.rel.setMem hu hs' ⟨_, hd', put_len hlen, VsRel.vput hr r2⟩).toks) ⟨hb1, hb2, hb3, rfl⟩
theorem IN.puts {kx vx gens scope pos k} {D : Addr} {m ks vs i F} {σ₀ : St} (hg : gens[k + 1]? = none) (hl : ks.length ≤ sizeLine)
    (h : EV X kx σ fun d σ1 => d = .str i ∧ EV X vx σ1 fun d σ2 => d = F ∧ Back σ₀ (m ++ [(D, Cell.sdict ks vs)]) σ2) : IN X (.DictComp kx vx gens scope pos) k (.ref D) σ (Back σ₀ (m ++ [(D, .sdict (kput ks i) (vput ks vs i F))])) := fun Z s K R r hK => by
  unfold innerT
  have hg' : (clausesOf (PySem.Expr.DictComp kx vx gens scope pos))[k + 1]? = none := hg
  rw [hg']
  show wpAny _ _ ((eval kx X.env >>= fun kv => holding [kv] (eval vx X.env) >>= fun vv => standAt _ >>= fun _ => holding [kv, vv] (dictSet D kv vv)) >>= fun _ => K) _ _ s
  refine wpAny_bind (wpAny_bind (J.use h r fun Z1 s1 σ1 d v x1 r1 h1 => ?_))
  obtain ⟨rfl, h1⟩ := h1
  refine wpAny_bind (wpAny_holding (J.use h1 x1.rel fun Z2 s2 σ2 d2 v2 x2 r2 h2 => ?_))
  obtain ⟨rfl, hb1, hb2, hb3, hb4⟩ := h2
  obtain ⟨t, rfl⟩ := r1
  refine wpAny_bind (wpAny_standAt (wpAny_holding ?_))
  have hm : (D, Cell.sdict ks vs) ∈ σ2.mem := by rw [hb4]; simp
  obtain ⟨us, hdict, hlen, hr⟩ := x2.rel.mem _ hm
  refine wpAny_dictSet_pairs (knd := PySem.strKind X.prog X.w) (k := i) isKS hdict (fun h' hd' hs' => ?_) (by rw [List.length_zip]; omega)
  rw [stored_zip hlen] at hd'
  have hu : UpM D (.sdict (kput ks i) (vput ks vs i d2)) σ2.mem (m ++ [(D, .sdict (kput ks i) (vput ks vs i d2))]) := by rw [hb4]; exact UpM.last m
  exact hK _ _ _ ((x1.trans x2).trans (x2.rel.setMem hu hs' ⟨_, hd', put_len hlen, VsRel.vput hr r2⟩).toks) ⟨hb1, hb2, hb3, rfl⟩

/-- {k x : F x for x in xs if p x}: what the iterable hands over -/
inductive DCF (X : Cx) (α K : Type) [DecidableEq K] (kenc : K → V) (kx vx target : PySem.Expr) (ifs : List PySem.Expr) (scope : Scope) (P : V → St → Prop) (mk : List K → List V → V) (d : V) (σ1 : St) : Prop
  | mk (locc celc : List (Str × Option V)) (capc : List (Str × V)) (xs : List α) (enc : α → V) (F : α → K × V) (p : α → Bool) (hit : ITERC X target σ1 d (xs.map enc)) (hL : ScL σ1.cel σ1.cap scope.names locc celc capc) (hsz : xs.length ≤ sizeLine)
    (turn : ∀ C D c x, x ∈ xs → AS (X.comp scope C) target (enc x) ⟨locc, celc, capc, σ1.mem ++ [(D, c)]⟩ fun σ2 => TS (X.comp scope C) ifs σ2 fun ok σ3 => ok = p x ∧ if p x then EV (X.comp scope C) kx σ3 fun d σ4 => d = kenc (F x).1 ∧ EV (X.comp scope C) vx σ4 fun d σ5 => d = (F x).2 ∧ Back ⟨locc, celc, capc, []⟩ (σ1.mem ++ [(D, c)]) σ5 else Back ⟨locc, celc, capc, []⟩ (σ1.mem ++ [(D, c)]) σ3)
    (fin : P (mk (putAll ((xs.filter p).map F) ([], [])).1 (putAll ((xs.filter p).map F) ([], [])).2) σ1)
theorem DCF.toG {α K : Type} [DecidableEq K] {kenc : K → V} {kx vx target iter : PySem.Expr} {ifs : List PySem.Expr} {scope : Scope} {pos : Pos} {mk : List K → List V → V} {cmk : List K → List V → Cell} {d : V} {σ1 : St}
    (hput : ∀ C D m ks vs σ (p : K × V), ks.length ≤ sizeLine → EV (X.comp scope C) kx σ (fun d σ4 => d = kenc p.1 ∧ EV (X.comp scope C) vx σ4 fun d σ5 => d = p.2 ∧ Back m (σ1.mem ++ [(D, cmk ks vs)]) σ5) → IN (X.comp scope C) (.DictComp kx vx [⟨target, iter, ifs, 0⟩] scope pos) 0 (.ref D) σ fun σ' => Back m (σ1.mem ++ [(D, cmk (kput ks p.1) (vput ks vs p.1 p.2))]) σ')
    (hv : ∀ ks vs, (cmk ks vs).isV = true ∧ frozen (cmk ks vs) = mk ks vs) (h : DCF X α K kenc kx vx target ifs scope P mk d σ1) :
    LCG X target scope (.DictComp kx vx [⟨target, iter, ifs, 0⟩] scope pos) ifs (cmk [] []) (LCE P) d σ1 := by
  cases h with
  | mk locc celc capc xs enc F p hit hL hsz turn fin =>
    refine .mk _ locc celc capc hit hL (fun _ => σ1.mem) (fun i => cmk (putAll (((xs.take i).filter p).map F) ([], [])).1 (putAll (((xs.take i).filter p).map F) ([], [])).2) rfl rfl (fun C D i di hi => ?_) ?_
    · rw [List.getElem?_map, Option.map_eq_some_iff] at hi
      obtain ⟨x, hx, rfl⟩ := hi
      refine AS.mono (turn C D _ x (List.mem_of_getElem? hx)) fun σ2 h2 => TS.mono h2 fun ok σ3 h3 => ?_
      obtain ⟨rfl, h4⟩ := h3
      rw [LCF.next hx, putAll_append]
      split at h4
      · rename_i hp
        rw [if_pos hp, if_pos hp]
        refine hput C D _ _ _ _ _ ?_ h4
        have h1 := putAll_len (((xs.take i).filter p).map F) ([], [])
        have h2 : (((xs.take i).filter p).map F).length ≤ i := by
          rw [List.length_map]; exact Nat.le_trans (List.length_filter_le ..) (List.length_take_le ..)
        have h3 := (List.getElem?_eq_some_iff.mp hx).1
        exact Nat.le_trans h1 (Nat.le_trans (by rw [List.length_nil, Nat.zero_add]; exact h2) (Nat.le_trans (Nat.le_of_lt h3) hsz))
      · rename_i hp
        rw [if_neg hp, if_neg hp]
        exact h4
    · rw [List.length_map, List.take_length]
      exact ⟨(hv _ _).1, by rw [(hv _ _).2]; exact fin⟩
theorem EV.dcs {α : Type} {kx vx target iter : PySem.Expr} {ifs : List PySem.Expr} {scope : Scope} {pos : Pos}
    (h : EV X iter σ (DCF X α Str .str kx vx target ifs scope P .sdict))
    (hok : scopeOkC scope.names = true) (hfk : freeOk scope.names (σ.cel.map (·.1)) (σ.cap.map (·.1)) = true) (hk : scope.kind = .function) (hs : ∀ x, foldedSetIterable iter X.env x = pure x) :
    EV X (.DictComp kx vx [⟨target, iter, ifs, 0⟩] scope pos) σ P :=
  EV.dcg (c0 := .sdict [] []) (.inl rfl) (J.mono h fun _ _ h => h.toG (cmk := .sdict) (fun _ _ _ _ _ _ _ hl h => IN.puts rfl hl h) fun _ _ => ⟨rfl, rfl⟩) (fun _ h => nomatch h) hok hfk hk hs
end
end Mine
end
section
open PySem PySem.Spec PySem.Calls PyProof.Rows PySem.W PySem.SeqAt
namespace Mine
section
variable {X : Cx} {σ σ' : St} {Z Z' : ZM} {s s' : Shared} {P : V → St → Prop} {target : PySem.Expr}
noncomputable abbrev nat (i : Nat) : V := .int i
theorem TS.one {c} {Q : Bool → St → Prop} (h : ET X c σ Q) : TS X [c] σ Q := TS.cons (J.mono h fun b σ1 hq => by cases b; exact hq; exact TS.nil hq)
theorem rangeV_nat (n : Nat) : rangeV 0 n = (List.range n).map nat := by
  unfold rangeV; simp [nat]
theorem small_nat {n : Nat} (h : n ≤ 2 ^ 40) : Builtin.Range.small 0 n 1 = true := small_of (by decide) (by omega)
theorem ITERC.rngN {n : Nat} (hA : X.A.handled = none) (h : n ≤ 2 ^ 40) : ITERC X target σ (.rng 0 n) ((List.range n).map nat) := rangeV_nat n ▸ ITERC.rng hA (small_nat h)
theorem ITER.rngN {n : Nat} (hA : X.A.handled = none) (h : n ≤ 2 ^ 40) : ITER X target σ (.rng 0 n) ((List.range n).map nat) := rangeV_nat n ▸ ITER.rng hA (small_nat h)
theorem seqIndex_nat {i n : Nat} (h : i < n) : seqIndex? (i : Int) n = some i := by
  unfold seqIndex?
  rw [if_neg (show ¬ (i : Int) < 0 by omega)]
  dsimp only
  rw [if_pos (by simp only [Bool.and_eq_true, decide_eq_true_eq]; constructor <;> omega)]
  simp
theorem seqIndex_neg {i n : Nat} (h : i < n) : seqIndex? (-1 - (i : Int)) n = some (n - 1 - i) := by
  unfold seqIndex?
  rw [if_pos (show (-1 - (i : Int)) < 0 by omega)]
  dsimp only
  rw [if_pos (by simp only [Bool.and_eq_true, decide_eq_true_eq]; constructor <;> omega)]
  congr 1; omega
theorem SUB.li {α : Type} {xs : List α} {enc : α → V} {k : Int} (i : Nat) (dflt : α) (hk : k = i) (hi : i < xs.length) (hs : xs.length ≤ sizeLine) (h : P (enc (xs.getD i dflt)) σ) : SUB X (.list (xs.map enc)) (.int k) σ P := by
  subst hk
  have sl : sizeLine < 2 ^ 60 := by decide
  refine SUB.list (seqIndex_nat (by simpa using hi)) (d := enc (xs.getD i dflt)) (by simp [hi]) (by omega) h
theorem SUB.lneg {α : Type} {xs : List α} {enc : α → V} {k : Int} (i : Nat) (dflt : α) (hk : k = -1 - (i : Int)) (hi : i < xs.length) (hs : xs.length ≤ sizeLine) (h : P (enc (xs.getD (xs.length - 1 - i) dflt)) σ) : SUB X (.list (xs.map enc)) (.int k) σ P := by
  subst hk
  have sl : sizeLine < 2 ^ 60 := by decide
  refine SUB.list (seqIndex_neg (by simpa using hi)) (d := enc (xs.getD (xs.length - 1 - i) dflt)) ?_ (by omega) h
  have : xs.length - 1 - i < xs.length := by omega
  simp [this]
theorem SUB.ti {l : List V} {k : Int} (i : Nat) {d : V} (hk : k = i) (hd : l[i]? = some d) (hs : l.length ≤ sizeLine) (h : P d σ) : SUB X (.tup l) (.int k) σ P := by
  subst hk
  have hi := (List.getElem?_eq_some_iff.mp hd).1
  have sl : sizeLine < 2 ^ 60 := by decide
  exact SUB.tup (seqIndex_nat hi) hd (by omega) h
theorem CMP.boolEq {k : Nat} {a b : Bool} (hA : Rm X.A k) (h : P (.bool (a == b)) σ) : CMP X .Eq (.bool a) (.bool b) σ P := CMP.eqv 1 hA rfl h
end
end Mine
end
section
open PySem PySem.Spec PySem.Calls PyProof.Rows PySem.W PySem.SeqAt
namespace Mine
section
variable {X : Cx} {σ σ' : St} {Z Z' : ZM} {s s' : Shared} {P : V → St → Prop}

/-! what stands around does not matter to the state -/
noncomputable def Cx.at (X : Cx) (A : Around) : Cx := { X with A := A }
theorem Rel.at {A : Around} (r : Rel X σ Z s) : Rel (X.at A) σ Z s :=
  ⟨⟨r.fr.lnd, r.fr.lk, r.fr.ck, r.fr.cnd, r.fr.cinj, r.fr.pk, r.fr.dbg, r.fr.kind⟩, r.zin, r.st, r.ztab, r.old, r.os, r.gens, r.ns, r.cells, r.cap, r.ownc, r.mem, r.nd, r.zfoot, r.bfoot, r.ex, r.g3, r.low⟩
theorem Rel.unat {A : Around} (r : Rel (X.at A) σ Z s) : Rel X σ Z s :=
  ⟨⟨r.fr.lnd, r.fr.lk, r.fr.ck, r.fr.cnd, r.fr.cinj, r.fr.pk, r.fr.dbg, r.fr.kind⟩, r.zin, r.st, r.ztab, r.old, r.os, r.gens, r.ns, r.cells, r.cap, r.ownc, r.mem, r.nd, r.zfoot, r.bfoot, r.ex, r.g3, r.low⟩
theorem Ext.unat {A : Around} (x : Ext (X.at A) σ Z s σ' Z' s') : Ext X σ Z s σ' Z' s' := ⟨x.rel.unat, x.le, x.keep, x.new, x.znew⟩
theorem Rm.under {A : Around} {k : Nat} {c : Code} (h : Rm A (k + 1)) (h1 : c.weight ≤ 1) (h2 : c.cUnits ≤ 10) : Rm (A.under c) k :=
  ⟨h.handled, by have := h.depth; show A.depth + c.weight + k ≤ 900; omega, by have := h.units; show A.units + c.cUnits + 10 * k ≤ 9000; omega⟩

/-! new objects of the ledger -/
theorem Ext.addMs (r : Rel X σ Z s) {h' : Heap} {tk : Nat} (hk : ∀ b o, s.heap.get? b = some o → h'.get? b = some o) {new : List (Addr × Cell)} (hnd : (keys new).Nodup)
    (hn : ∀ p ∈ new, s.heap.get? p.1 = none ∧ CellRel X.prog X.w Z h' p.1 p.2 ∧ 3 < p.1) : Ext X σ Z s { σ with mem := σ.mem ++ new } Z { s with heap := h', toks := tk } := by
  have x := Ext.keepAll (tk := tk) r hk
  have q := x.rel
  have hn1 : ∀ a ∈ keys new, s.heap.get? a = none := fun a ha => by obtain ⟨p, hp, rfl⟩ := List.mem_map.mp ha; exact (hn p hp).1
  have hf : ∀ a ∈ keys new, a ∉ foot X σ := fun a ha hh => by obtain ⟨o, e⟩ := r.ex a hh; rw [hn1 a ha] at e; cases e
  have km : keys (σ.mem ++ new) = keys σ.mem ++ keys new := by simp [keys]
  have ft : ∀ a, a ∈ foot X { σ with mem := σ.mem ++ new } ↔ a ∈ foot X σ ∨ a ∈ keys new := fun a => by
    unfold foot
    show a ∈ X.env.locals :: (X.own ++ keys (σ.mem ++ new)) ↔ _
    rw [km]
    simp only [List.mem_cons, List.mem_append]
    constructor
    · rintro (h | h | h | h)
      · exact .inl (.inl h)
      · exact .inl (.inr (.inl h))
      · exact .inl (.inr (.inr h))
      · exact .inr h
    · rintro ((h | h | h) | h)
      · exact .inl h
      · exact .inr (.inl h)
      · exact .inr (.inr (.inl h))
      · exact .inr (.inr (.inr h))
  refine ⟨⟨⟨q.fr.lnd, q.fr.lk, q.fr.ck, q.fr.cnd, q.fr.cinj, q.fr.pk, q.fr.dbg, q.fr.kind⟩, q.zin, q.st, q.ztab, q.old, q.os, q.gens, q.ns, q.cells, q.cap, q.ownc, fun p hp => ?_, ?_, fun a ha => ?_, fun a ha => ?_, fun a ha => ?_, q.g3, fun a ha => ?_⟩, x.le, x.keep, fun a ha => ?_, x.znew⟩
  · rcases List.mem_append.mp hp with h | h
    · exact q.mem p h
    · exact (hn p h).2.1
  · have nd := r.nd
    have e : foot X { σ with mem := σ.mem ++ new } = foot X σ ++ keys new := by
      unfold foot
      show X.env.locals :: (X.own ++ keys (σ.mem ++ new)) = _
      rw [km]; simp
    rw [e]
    exact List.nodup_append.mpr ⟨nd, hnd, fun a ha b hb e => hf b hb (e ▸ ha)⟩
  · rcases (ft a).mp ha with h | h
    · exact q.zfoot a h
    · cases e : Z a with
      | none => rfl
      | some o => have := r.zin _ _ e; rw [hn1 a h] at this; cases this
  · rcases (ft a).mp ha with h | h
    · exact q.bfoot a h
    · cases e : X.base.get? a with
      | none => rfl
      | some o => obtain ⟨o2, h2⟩ := r.old.there _ _ e; rw [hn1 a h] at h2; cases h2
  · rcases (ft a).mp ha with h | h
    · exact q.ex a h
    · obtain ⟨p, hp, rfl⟩ := List.mem_map.mp h
      have hc := (hn p hp).2.1
      revert hc
      cases p.2 <;> intro hc
      · obtain ⟨_, ⟨_, h⟩, _⟩ := hc; exact ⟨_, h⟩
      · obtain ⟨_, ⟨o, _, _, h, _⟩, _⟩ := hc; exact ⟨o, h⟩
      · obtain ⟨_, ⟨o, _, _, h, _⟩, _⟩ := hc; exact ⟨o, h⟩
      · obtain ⟨_, ⟨o, _, _, h, _⟩, _⟩ := hc; exact ⟨o, h⟩
      · obtain ⟨o, h, _⟩ := hc; exact ⟨o, h⟩
  · have ha : a ∈ keys (σ.mem ++ new) := ha
    rw [km] at ha
    rcases List.mem_append.mp ha with h | h
    · exact q.low a h
    · obtain ⟨p, hp, rfl⟩ := List.mem_map.mp h; exact (hn p hp).2.2
  · have ha : a ∈ keys (σ.mem ++ new) := ha
    rw [km] at ha
    rcases List.mem_append.mp ha with h | h
    · exact .inl h
    · exact .inr (hn1 a h)

/-! instances -/
noncomputable def KIn (X : Cx) (K : Frag) : Prop := ∀ a o, K.lookup a = some o → X.base.get? a = some o ∧ o.cls ≠ .none
theorem KIn.at {K : Frag} (h : KIn X K) (r : Rel X σ Z s) : K.In s.heap := fun a o e => r.base (h a o e).1 (h a o e).2
theorem Keep.cls {K : Frag} {C : Addr} (hK : KIn X K) (hm : makesIn K C = true) : Keep X σ (.ref C) := fun Z s Q r h => by
  have Y := makes_of (M := model X.prog X.w) (hK.at r) hm
  obtain ⟨oc, od, cd, sl, ho, _⟩ := Y.obj
  unfold keeperOf
  refine wpAny_bind (wpAny_load ho ?_)
  refine wpAny_bind (Y.call.here ?_)
  exact wpAny_pure (h _)

/-- a class is called: its object is made, and its __init__ is called -/
theorem CALL.make {K : Frag} {C fI : Addr} {ds : List V} {k : Nat} (hK : KIn X K) (hm : makesIn K C = true) (hi : findIn K (.ref C) "__init__" = some (some (.ref fI))) (hf : typeIn K (.ref fI) = some (.type "function")) (hA : Rm X.A (k + 1))
    (h : ∀ A' x dx, Rm A' k → CALLR (X.at A') (.ref fI) (.ref x :: ds) { σ with mem := σ.mem ++ [(x, .raw (· = instObj C dx)), (dx, .ns [])] } fun d σ2 => d = .none ∧ P (.ref x) σ2) : CALL X (.ref C) ds σ P := fun Z s vs r hv => by
  refine wpAny_call ?_
  obtain ⟨hh, g, d, t, os⟩ := s
  have kin := hK.at r
  refine make_core (makes_of kin hm) (looks_findIn kin hi) (fun self => bind_fn kin self hf) (.inl rfl) ?_
  have sz := r.sz3
  have e1 : ((hh.push emptyDict).push (instObj C hh.objs.size)).get? hh.objs.size = some emptyDict := Heap.get?_push_of_some _ (Heap.get?_push_size _ rfl)
  have e2 : ((hh.push emptyDict).push (instObj C hh.objs.size)).get? (hh.objs.size + 1) = some (instObj C hh.objs.size) := by
    have := Heap.get?_push_size (hh.push emptyDict) (o := instObj C hh.objs.size) rfl
    rwa [Heap.size_push] at this
  have x : Ext X σ Z ⟨hh, g, d, t, os⟩ { σ with mem := σ.mem ++ [(hh.objs.size + 1, .raw (· = instObj C hh.objs.size)), (hh.objs.size, .ns [])] } Z ⟨(hh.push emptyDict).push (instObj C hh.objs.size), g, d, t, os⟩ := by
    refine Ext.addMs r (tk := t) (fun b o e => Heap.get?_push_of_some _ (Heap.get?_push_of_some _ e)) (by simp [keys]) fun p hp => ?_
    simp only [List.mem_cons, List.not_mem_nil, or_false] at hp
    rcases hp with rfl | rfl
    · exact ⟨Heap.get?_none_of_le (Nat.le_succ _), ⟨_, e2, rfl⟩, Nat.lt_succ_of_lt sz⟩
    · refine ⟨Heap.get?_none_of_le (Nat.le_refl _), ⟨fun _ => none, ⟨_, #[], 0, e1, rfl, ?_, ?_, ?_⟩, ?_, ?_⟩, sz⟩
      · intro e he; simp at he
      · exact List.Pairwise.nil
      · intro name; rfl
      · intro y d' hy; cases hy
      · intro y _; rfl
  refine h _ (hh.objs.size + 1) hh.objs.size (hA.under (Nat.le_of_ble_eq_true rfl) (Nat.le_of_ble_eq_true rfl)) Z _ (.ref (hh.objs.size + 1) :: vs) _ x.rel.at ⟨_, _, rfl, vr_ref, hv⟩ fun v s' q => ?_
  obtain ⟨Z2, σ2, d2, y, hr, rfl, hp⟩ := q
  cases hr
  exact ⟨rfl, hereV (x.trans y.unat) vr_ref hp⟩

/-! attributes of an instance -/
structure ClsX (X : Cx) (C N : Addr) (mN : Str → Option Value) : Prop where
  base : ClsAt X.base C N mN
  cls : ∀ o, X.base.get? C = some o → o.cls ≠ .none
theorem ClsX.here {C N mN} (h : ClsX X C N mN) (r : Rel X σ Z s) : ClsAt s.heap C N mN := by
  obtain ⟨⟨nm, q, bs, sn, sub, col, dd, k0, k1, k2, k3, k5, e⟩, hn⟩ := h.base
  exact ⟨⟨nm, q, bs, sn, sub, col, dd, k0, k1, k2, k3, k5, r.base e (h.cls _ e)⟩, r.baseNs hn⟩
theorem Rel.inst (r : Rel X σ Z s) {x C dx : Addr} {l} (hx : (x, Cell.raw (· = instObj C dx)) ∈ σ.mem) (hd : (dx, Cell.ns l) ∈ σ.mem) (hne : dx ≠ x) :
    ∃ m, s.heap.Inst x C m ∧ s.heap.get? x = some (instObj C dx) ∧ s.heap.Ns1 dx m ∧ (∀ y d, (y, d) ∈ l → ∃ v, m y = some v ∧ VRel X.prog X.w Z d v) ∧ ∀ y, y ∉ l.map (·.1) → m y = none := by
  obtain ⟨o, ho, rfl⟩ := r.mem _ hx
  obtain ⟨m, hn, h1, h2⟩ := r.mem _ hd
  exact ⟨m, ⟨_, ho, rfl, (fun c e => by cases e), .inr ⟨dx, rfl, hne, hn⟩⟩, ho, hn, h1, h2⟩
theorem mem_key_ne (r : Rel X σ Z s) {x dx : Addr} {p : Obj → Prop} {l} (hx : (x, Cell.raw p) ∈ σ.mem) (hd : (dx, Cell.ns l) ∈ σ.mem) : dx ≠ x := fun e => by
  subst e
  have nd := r.nd
  unfold foot at nd
  have nd2 := (List.nodup_append.mp (List.nodup_cons.mp nd).2).2.1
  have : ∀ m : List (Addr × Cell), (keys m).Nodup → ∀ a c c', (a, c) ∈ m → (a, c') ∈ m → c = c' := by
    intro m
    induction m with
    | nil => intro _ a c c' h; cases h
    | cons q m ih =>
      intro nd a c c' h1 h2
      simp only [keys, List.map_cons, List.nodup_cons] at nd
      rcases List.mem_cons.mp h1 with h1 | h1 <;> rcases List.mem_cons.mp h2 with h2 | h2
      · rw [← h1] at h2; cases h2; rfl
      · exact absurd (List.mem_map_of_mem (f := (·.1)) h2) (by rw [← h1] at nd; exact nd.1)
      · exact absurd (List.mem_map_of_mem (f := (·.1)) h1) (by rw [← h2] at nd; exact nd.1)
      · exact ih nd.2 a c c' h1 h2
  cases this _ nd2 _ _ _ hx hd

theorem EV.attrI {value : PySem.Expr} {attr : Str} {pos : Pos} (C N : Addr) (mN : Str → Option Value) (hc : ClsX X C N mN)
    (hg : mN "__getattribute__" = Option.none) (hna : mN attr = Option.none) (hB : typeLookup (.type "object") attr = pure Option.none)
    (h : EV X value σ fun d σ1 => ∃ x dx l d', d = .ref x ∧ (x, Cell.raw (· = instObj C dx)) ∈ σ1.mem ∧ (dx, Cell.ns l) ∈ σ1.mem ∧ (attr, d') ∈ l ∧ (∀ Z v, VRel X.prog X.w Z d' v → handedOut v = pure v) ∧ P d' σ1)
    (he : ∀ env, eval (.Attribute value attr pos) env = (do
      let o ← eval value env
      standAt pos.atName
      let r ← holding [o] (getAttr o attr true)
      letTemporaryGo value o r
      pure r) := by intro _; with_unfolding_all rfl) : EV X (.Attribute value attr pos) σ P := fun Z s r =>
  Attribute_any_ (J.use h r fun Z1 s1 σ1 d v x1 r1 h1 => by
    obtain ⟨x, dx, l, d', rfl, hx, hd, hm, hh, hp⟩ := h1
    cases r1
    obtain ⟨m, hI, ho, hn, hl, _⟩ := x1.rel.inst hx hd (mem_key_ne x1.rel hx hd)
    obtain ⟨v, hv, hvr⟩ := hl _ _ hm
    obtain ⟨⟨nm, q, bs, sn, sub, col, dd, k0, k1, k2, k3, k5, hC⟩, hN⟩ := hc.here x1.rel
    obtain ⟨hh1, g1, d1, t1, os1⟩ := s1
    exact load_attr hC hN hg hna hB hI hv (hh _ _ hvr) (hereV x1.toks hvr hp)) (he _)

/-- a name is put into a list of names -/
inductive PutS (x : Str) (d : V) : List (Str × V) → List (Str × V) → Prop
  | new : PutS x d [] [(x, d)]
  | hit {u l} : x ∉ l.map (·.1) → PutS x d ((x, u) :: l) ((x, d) :: l)
  | miss {y u l l'} : y ≠ x → PutS x d l l' → PutS x d ((y, u) :: l) ((y, u) :: l')
theorem PutS.spec {x d l l'} (q : PutS x d l l') : (∀ y e, (y, e) ∈ l' → (y = x ∧ e = d) ∨ (y ≠ x ∧ (y, e) ∈ l)) ∧ ∀ y, y ∉ l'.map (·.1) → y ≠ x ∧ y ∉ l.map (·.1) := by
  induction q with
  | new =>
    refine ⟨fun y e h => ?_, fun y h => ⟨fun e => h (by rw [e]; exact .head _), List.not_mem_nil⟩⟩
    cases List.mem_singleton.mp h; exact .inl ⟨rfl, rfl⟩
  | hit hx =>
    refine ⟨fun y e h => ?_, fun y h => ⟨fun e => h (by rw [e]; exact .head _), h⟩⟩
    rcases List.mem_cons.mp h with h | h
    · cases h; exact .inl ⟨rfl, rfl⟩
    · exact .inr ⟨fun e => hx (e ▸ List.mem_map_of_mem (f := (·.1)) h), .tail _ h⟩
  | miss hy _ ih =>
    refine ⟨fun y e h => ?_, fun y h => ?_⟩
    · rcases List.mem_cons.mp h with h | h
      · cases h; exact .inr ⟨hy, .head _⟩
      · rcases ih.1 y e h with h | h
        · exact .inl h
        · exact .inr ⟨h.1, .tail _ h.2⟩
    · have := ih.2 y fun hm => h (.tail _ hm)
      exact ⟨this.1, fun hm => (List.mem_cons.mp hm).elim (fun e => h (by rw [e]; exact .head _)) this.2⟩

theorem Rel.setMemK (r : Rel X σ Z s) {a : Addr} {c : Cell} {mem' : List (Addr × Cell)} (hu : UpM a c σ.mem mem') {h' : Heap} {tk : Nat} (hs : ∀ b o, b ≠ a → s.heap.get? b = some o → h'.get? b = some o)
    (hc : CellRel X.prog X.w Z h' a c) : Ext X σ Z s { σ with mem := mem' } Z { s with heap := h', toks := tk } := by
  have hk := hu.keys
  have hL : a ∈ foot X σ := List.mem_cons_of_mem _ (List.mem_append_right _ hu.has)
  have nd := r.nd
  have k : ∀ b o, s.heap.get? b = some o → b ∉ foot X σ → h'.get? b = some o := fun b o e hb => hs b o (fun h => hb (h ▸ hL)) e
  have ft : foot X { σ with mem := mem' } = foot X σ := by unfold foot; rw [hk]
  have nd2 : (keys σ.mem).Nodup := by
    unfold foot at nd
    exact (List.nodup_append.mp (List.nodup_cons.mp nd).2).2.1
  have neL : X.env.locals ≠ a := fun e => by
    unfold foot at nd
    exact (List.nodup_cons.mp nd).1 (e ▸ List.mem_append_right _ hu.has)
  have neO : ∀ c' ∈ X.own, c' ≠ a := fun c' hc' e => by
    unfold foot at nd
    have n1 := List.nodup_append.mp (List.nodup_cons.mp nd).2
    exact n1.2.2 _ (e ▸ hc') _ hu.has rfl
  refine ⟨⟨⟨r.fr.lnd, r.fr.lk, r.fr.ck, r.fr.cnd, r.fr.cinj, r.fr.pk, r.fr.dbg, r.fr.kind⟩, fun b o e => foot_keep r (fun b o e hb _ => k b o e hb) b o e, r.st, r.ztab, r.oldKeep k, r.os, r.gens, ?_, fun x ov hx => ?_, r.cap, fun c' hc' => ?_, fun p hp => ?_, by rw [ft]; exact r.nd, by rw [ft]; exact r.zfoot, by rw [ft]; exact r.bfoot, ?_, r.g3, by rw [hk]; exact r.low⟩,
    fun _ _ e => e, fun b o e hb _ => k b o e hb, fun b h => .inl (by rw [← hk]; exact h), fun _ _ h => .inl h⟩
  · obtain ⟨m, hn, hm⟩ := r.ns; exact ⟨m, hn.at' fun o e => hs _ o neL e, hm⟩
  · obtain ⟨c', uo, h1, h2, ⟨ob, hob, hd⟩, h4⟩ := r.cells x ov hx
    exact ⟨c', uo, h1, h2, ⟨ob, hs _ _ (neO _ h1) hob, hd⟩, h4⟩
  · obtain ⟨uo, ob, hob, hd⟩ := r.ownc c' hc'
    exact ⟨uo, ob, hs _ _ (neO _ hc') hob, hd⟩
  · rcases hu.mem nd2 p hp with rfl | ⟨hp', hne⟩
    · exact hc
    · exact (r.mem p hp').mono (fun _ _ e => e) fun o e => hs _ o hne e
  · rw [ft]; intro b hb
    by_cases h : b = a
    · subst h
      revert hc
      cases c <;> intro hc
      · obtain ⟨_, ⟨_, h⟩, _⟩ := hc; exact ⟨_, h⟩
      · obtain ⟨_, ⟨o, _, _, h, _⟩, _⟩ := hc; exact ⟨o, h⟩
      · obtain ⟨_, ⟨o, _, _, h, _⟩, _⟩ := hc; exact ⟨o, h⟩
      · obtain ⟨_, ⟨o, _, _, h, _⟩, _⟩ := hc; exact ⟨o, h⟩
      · obtain ⟨o, h, _⟩ := hc; exact ⟨o, h⟩
    · obtain ⟨o, ho⟩ := r.ex b hb; exact ⟨o, hs b o h ho⟩

/-- o.attr is stored -/
noncomputable def SETA (X : Cx) (attr : Str) (x : Addr) (d : V) (σ : St) (Q : St → Prop) : Prop :=
  ∀ Z s v, Rel X σ Z s → VRel X.prog X.w Z d v → wpAny (model X.prog X.w) X.A (setAttr (.ref x) attr v) (Post X (REq (α := Unit)) σ Z s fun _ σ' => Q σ') Nope s
theorem SETA.inst {attr : Str} {x dx : Addr} {d : V} {Q : St → Prop} {l l' mem'} (C N : Addr) (mN : Str → Option Value) (hc : ClsX X C N mN)
    (hs : mN "__setattr__" = none) (hna : mN attr = none) (hB : typeLookup (.type "object") attr = pure none) 
    (hx : (x, Cell.raw (· = instObj C dx)) ∈ σ.mem) (hd : (dx, Cell.ns l) ∈ σ.mem) (hp : PutS attr d l l') (hu : UpM dx (.ns l') σ.mem mem') (hlen : l.length ≤ sizeLine) (h : Q { σ with mem := mem' }) : SETA X attr x d σ Q := fun Z s v r hv => by
  have hne := mem_key_ne r hx hd
  have hxC : x ≠ C := fun e => by
    have hb := r.bfoot x (r.nonempty hx)
    obtain ⟨nm, q, bs, sn, sub, col, dd, k0, k1, k2, k3, k5, hC⟩ := hc.base.obj
    rw [e, hC] at hb; cases hb
  obtain ⟨m, hI, ho, hn, hl, hout⟩ := r.inst hx hd hne
  obtain ⟨⟨nm, q, bs, sn, sub, col, dd, k0, k1, k2, k3, k5, hC⟩, hN⟩ := hc.here r
  obtain ⟨hh, g, d1, t, os⟩ := s
  refine store_attr (ns := l.map (·.1)) F.store_object hC hN hs hna hB hxC hI (fun h' tk' I' hk hsame => ?_) (fun y hy => by
    by_cases e : y ∈ l.map (·.1)
    · exact e
    · exact absurd (hout y e) hy) (by rw [List.length_map]; exact hlen)
  obtain ⟨o1, ho1, e1, e2, e3, e4⟩ := hsame _ ho
  have ho1' : o1 = instObj C dx := by
    obtain ⟨c1, c2, c3, c4⟩ := o1
    simp only at e1 e2 e3 e4
    have := e4 dx rfl
    subst e1 e2 e3 this; rfl
  subst ho1'
  obtain ⟨o2, ho2, _, _, hd2⟩ := I'
  have ho2' : h'.get? x = some o2 := ho2
  rw [ho1] at ho2'; cases ho2'
  have hN1 : h'.Ns1 dx (fun y => if y = attr then some v else m y) := by
    rcases hd2 with ⟨e, _⟩ | ⟨d', e, _, hq⟩
    · cases e
    · cases e; exact hq
  have ks : ∀ b o, b ≠ dx → hh.get? b = some o → h'.get? b = some o := fun b o hb e => by
    by_cases hbx : b = x
    · subst hbx
      have : hh.get? b = some (instObj C dx) := ho
      rw [e] at this; cases this; exact ho1
    · exact hk b o hbx (fun o₀ d₀ h0 h1 => by
        have : hh.get? x = some (instObj C dx) := ho
        rw [h0] at this; cases this; cases h1; exact hb) e
  refine ⟨_, _, (), r.setMemK (tk := tk') hu ks ⟨_, hN1, fun y e hy => ?_, fun y hy => ?_⟩, rfl, h⟩
  · rcases hp.spec.1 y e hy with ⟨rfl, rfl⟩ | ⟨hy1, hy2⟩
    · exact ⟨v, if_pos rfl, hv⟩
    · obtain ⟨u, hu1, hu2⟩ := hl y e hy2
      exact ⟨u, by rw [if_neg hy1]; exact hu1, hu2⟩
  · have := hp.spec.2 y hy
    rw [if_neg this.1]; exact hout y this.2
theorem ES.asgAttr {o value : PySem.Expr} {attr : Str} {pos' pos : Pos} {Q : Fl → St → Prop} (h : EV X value σ fun d σ1 => EV X o σ1 fun od σ2 => ∃ x, od = .ref x ∧ SETA X attr x d σ2 (Q .next))
    (hs : swapsWith value (some (.Attribute o attr pos')) pos.line X.env = pure false) : ES X (.Assign [.Attribute o attr pos'] value pos) σ Q := fun Z s r =>
  plainObj_wpAny_Assign_Attribute (J.use h r fun Z1 s1 σ1 d v x1 r1 h1 => J.use h1 x1.rel fun Z2 s2 σ2 od ov x2 r2 h2 => by
    obtain ⟨x, rfl, h3⟩ := h2
    cases r2
    exact wpAny_mono (h3 Z2 s2 v x2.rel (r1.mono x2.le)) (fun _ s3 ⟨Z3, σ3, b, x3, _, hq⟩ => here ((x1.trans x2).trans x3) rfl_next hq) fun _ _ h => h) hs
end
end Mine
end
section
open PySem PySem.Spec PySem.Calls PyProof.Rows PySem.W PySem.SeqAt
namespace Mine
section
variable {X : Cx} {σ σ' : St} {Z Z' : ZM} {s s' : Shared} {P : V → St → Prop}
theorem mem_right {α : Type} {a : α} {l m : List α} (h : a ∈ l) : a ∈ m ++ l := List.mem_append_right _ h
theorem mem_left {α : Type} {a : α} {l m : List α} (h : a ∈ m) : a ∈ m ++ l := List.mem_append_left _ h
theorem UpM.right {a c l l'} (h : UpM a c l l') : ∀ {m : List (Addr × Cell)}, UpM a c (m ++ l) (m ++ l')
  | [] => h
  | _ :: _ => .tail h.right
theorem UpM.left {a c l l'} (h : UpM a c l l') {m : List (Addr × Cell)} : UpM a c (l ++ m) (l' ++ m) := by
  induction h with
  | head => exact .head
  | tail _ ih => exact .tail ih

/-- a method of a class of the program -/
theorem EV.methU {o : PySem.Expr} {name : Str} {apos pos : Pos} {args : List PySem.Expr} (C N : Addr) (mN : Str → Option Value) (f : Addr) (hc : ClsX X C N mN) (hg : mN "__getattribute__" = Option.none) (hnh : mN "__getattr__" = Option.none)
    (hf : mN name = some (.ref f)) {of : Obj} (hfo : X.base.get? f = some of) (hfc : of.cls = .type "function") {y : Option Value} (hB : typeLookup (.type "object") name = pure y)
    (h : EV X o σ fun d σ1 => ∃ x dx l, d = .ref x ∧ (x, Cell.raw (· = instObj C dx)) ∈ σ1.mem ∧ (dx, Cell.ns l) ∈ σ1.mem ∧ name ∉ l.map (·.1) ∧ EVs X pos args σ1 fun ds σ2 => Keep X σ2 (.ref f) ∧ CALL X (.ref f) (.ref x :: ds) σ2 P)
    (hbase : ∀ env, attributeBase o name env (eval o env) = eval o env := by intro _; rfl)
    (hfew : ∀ env, ((backTo pos (starEach args env)).all (fun x => !x.1) && (backToKw pos (keywordEach [] env)).all (fun x => x.1.isSome)
      && decide (args.length + ([] : List Keyword).length + (if ([] : List Keyword).isEmpty then 0 else 1) < 30)) = true := by intro _; rfl)
    (hline : (apos.endLine == pos.line) = true := by rfl) (hp : ∀ env, (starEach args env).any (·.1) = false := by intro _; rfl) : EV X (.Call (.Attribute o name apos) args [] pos) σ P := fun Z s r => by
  rw [arm_eval_Call, hbase]
  refine wpAny_bind (J.use h r fun Z1 s1 σ1 d v x1 r1 h1 => ?_)
  obtain ⟨x, dx, l, rfl, hx, hd, hl, h2⟩ := h1
  cases r1
  obtain ⟨m, hI, ho, hn, _, hout⟩ := x1.rel.inst hx hd (mem_key_ne x1.rel hx hd)
  obtain ⟨⟨nm, q, bs, sn, sub, col, dd, k0, k1, k2, k3, k5, hC⟩, hN⟩ := hc.here x1.rel
  have hcc : wpAny (model X.prog X.w) X.A (callWith pos (.ref f) [.ref x] (backTo pos (starEach args X.env)) []) (Post X (RV X) σ Z s P) Nope s1 := by
    refine callWith_gen (backTo_plain (hp _)) (J.use h2 x1.rel fun Z2 s2 σ2 ds vs x2 r2 h3 => ?_)
    refine ⟨fun Q hQ => h3.1 Z2 s2 Q x2.rel hQ, ?_⟩
    exact wpAny_mono (h3.2 Z2 s2 (.ref x :: vs) x2.rel ⟨_, vs, rfl, vr_ref, r2⟩) (fun _ _ q => q.lift (x1.trans x2)) fun _ _ h => h
  have hfo' := x1.rel.base hfo (by rw [hfc]; intro e; cases e)
  refine wpAny_bind (wpAny_standAt ?_)
  have hform : methodCallForm (args.length + ([] : List Keyword).length) (backTo pos (starEach args X.env)) (backToKw pos (keywordEach [] X.env)) = true := hfew _
  have hpos : methodCallPos true o X.env apos pos = pure pos := by unfold methodCallPos; simp [hline]
  obtain ⟨hh1, g1, d1, t1, os1⟩ := s1
  unfold methodCall
  rw [hform]
  refine wpAny_bind (wpAny_holding (method_of hC hN hg hnh hf hfo' hfc hB hI (hout _ hl) ?_))
  exact wpAny_bind (wpAny_of_eq hpos hcc)
end
end Mine
end
section
open PySem PySem.Spec PySem.Calls PyProof.Rows PySem.W PySem.SeqAt
namespace Mine
section
variable {X : Cx} {σ σ' : St} {Z Z' : ZM} {s s' : Shared} {P : V → St → Prop}
/-- [F x y for x in xs for y in ys x], its body without effect: what the iterable hands over -/
inductive LC2 (X : Cx) (α β : Type) (elt t1 t2 it2 : PySem.Expr) (scope : Scope) (P : V → St → Prop) (d : V) (σ1 : St) : Prop
  | mk (locc celc : List (Str × Option V)) (capc : List (Str × V)) (xs : List α) (enc : α → V) (ys : α → List β) (enc2 : β → V) (F : α → β → V) (hit : ITERC X t1 σ1 d (xs.map enc)) (hL : ScL σ1.cel σ1.cap scope.names locc celc capc)
    (hsz : (xs.flatMap fun x => (ys x).map (F x)).length ≤ sizeLine)
    (turn : ∀ C D c x, x ∈ xs → AS (X.comp scope C) t1 (enc x) ⟨locc, celc, capc, σ1.mem ++ [(D, c)]⟩ fun σ2 => Back ⟨locc, celc, capc, []⟩ (σ1.mem ++ [(D, c)]) σ2 ∧
      EV (X.comp scope C) it2 σ2 (fun d2 σ3 => ITERC (X.comp scope C) t2 σ3 d2 ((ys x).map enc2) ∧ Back σ2 (σ1.mem ++ [(D, c)]) σ3) ∧
      ∀ y ∈ ys x, ∀ c', AS (X.comp scope C) t2 (enc2 y) { σ2 with mem := σ1.mem ++ [(D, c')] } fun σ4 => EV (X.comp scope C) elt σ4 fun d σ5 => d = F x y ∧ Back σ2 (σ1.mem ++ [(D, c')]) σ5)
    (fin : P (.list (xs.flatMap fun x => (ys x).map (F x))) σ1)
theorem LC2.next {α β : Type} {xs : List α} {ys : α → List β} {i : Nat} {x : α} (hx : xs[i]? = some x) : (xs.take (i + 1)).flatMap ys = (xs.take i).flatMap ys ++ ys x := by
  rw [take_succ_of hx, List.flatMap_append]; simp
theorem LC2.len {α β : Type} {xs : List α} {ys : α → List β} {i n : Nat} {x : α} (hx : xs[i]? = some x) (h : (xs.flatMap ys).length ≤ n) : ((xs.take i).flatMap ys).length + (ys x).length ≤ n := by
  rw [← List.length_append, ← LC2.next hx]
  refine Nat.le_trans ?_ h
  rw [← List.take_append_drop (i + 1) xs, List.flatMap_append, List.length_append, List.take_append_drop]
  exact Nat.le_add_right ..
theorem LC2.len2 {β γ : Type} {l : List γ} {zs : List β} {f : β → γ} {j n : Nat} (h : l.length + (zs.map f).length ≤ n) : (l ++ (zs.take j).map f).length ≤ n := by
  refine Nat.le_trans ?_ h
  rw [List.length_append, List.length_map, List.length_map]
  exact Nat.add_le_add_left (List.length_take_le' ..) _
theorem LC2.step {β : Type} {elt t1 t2 it1 it2 : PySem.Expr} {scope : Scope} {pos : Pos} {locc celc : List (Str × Option V)} {capc : List (Str × V)} {zs : List β} {enc2 : β → V} {F : β → V} {m : List (Addr × Cell)} {C D : Addr} {l : List V} {σ2 : St} (hsz : l.length + (zs.map F).length ≤ sizeLine)
    (hs2 : ∀ env x, foldedSetIterable it2 env x = pure x) (hb : Back ⟨locc, celc, capc, []⟩ (m ++ [(D, .list l)]) σ2)
    (hit2 : EV (X.comp scope C) it2 σ2 (fun d2 σ3 => ITERC (X.comp scope C) t2 σ3 d2 (zs.map enc2) ∧ Back σ2 (m ++ [(D, .list l)]) σ3))
    (hy : ∀ y ∈ zs, ∀ c', AS (X.comp scope C) t2 (enc2 y) { σ2 with mem := m ++ [(D, c')] } fun σ4 => EV (X.comp scope C) elt σ4 fun d σ5 => d = F y ∧ Back σ2 (m ++ [(D, c')]) σ5) :
    IN (X.comp scope C) (.ListComp elt [⟨t1, it1, [], 0⟩, ⟨t2, it2, [], 0⟩] scope pos) 0 (.ref D) σ2 (Back ⟨locc, celc, capc, []⟩ (m ++ [(D, .list (l ++ zs.map F))])) := by
  have q := IN.clause (X := X.comp scope C) (σ := σ2) (e := .ListComp elt [⟨t1, it1, [], 0⟩, ⟨t2, it2, [], 0⟩] scope pos) rfl (by
      intro g hg
      have hg' : g ∈ [(⟨t1, it1, [], 0⟩ : Comprehension), ⟨t2, it2, [], 0⟩] := hg
      rcases List.mem_cons.mp hg' with rfl | h
      · rfl
      · rw [List.mem_singleton.mp h]) (k := 0) (σ₀ := ⟨locc, celc, capc, []⟩) (σ₁ := σ2) (D := D) (target := t2) (iter := it2) (ifs := []) rfl (fun _ => m)
      (fun j => .list (l ++ (zs.take j).map F)) (zs.map enc2) (J.mono hit2 fun d σ3 h => ⟨h.1, ?_⟩) (fun j dj hj => ?_) (fun σ' hb' => hb.trans hb') hs2
  · refine IN.post q fun σ' hb' => ?_
    rw [List.length_map, List.take_length] at hb'
    exact hb'
  · refine ⟨h.2.1, h.2.2.1, h.2.2.2.1, ?_⟩
    rw [h.2.2.2.2, List.take_zero, List.map_nil, List.append_nil]
  · rw [List.getElem?_map, Option.map_eq_some_iff] at hj
    obtain ⟨y, hy1, rfl⟩ := hj
    refine AS.mono (hy y (List.mem_of_getElem? hy1) _) fun σ4 h4 => TS.nil ?_
    rw [if_pos rfl, take_succ_of hy1, List.map_append, ← List.append_assoc]
    exact IN.one rfl (LC2.len2 hsz) h4
theorem EV.lc2 {α β : Type} {elt t1 t2 it1 it2 : PySem.Expr} {scope : Scope} {pos : Pos} (h : EV X it1 σ (LC2 X α β elt t1 t2 it2 scope P))
    (hok : scopeOkC scope.names = true) (hfk : freeOk scope.names (σ.cel.map (·.1)) (σ.cap.map (·.1)) = true) (hk : scope.kind = .function) (hs : ∀ x, foldedSetIterable it1 X.env x = pure x)
    (hs2 : ∀ env x, foldedSetIterable it2 env x = pure x := by intro _ _; rfl) :
    EV X (.ListComp elt [⟨t1, it1, [], 0⟩, ⟨t2, it2, [], 0⟩] scope pos) σ P := by
  refine EV.lcg (J.mono h fun d σ1 h => ?_) (fun g hg => by rw [List.mem_singleton.mp hg]) hok hfk hk hs
  cases h with
  | mk locc celc capc xs enc ys enc2 F hit hL hsz turn hP =>
    refine .mk _ locc celc capc hit hL (fun _ => σ1.mem) (fun i => .list ((xs.take i).flatMap fun x => (ys x).map (F x))) rfl rfl (fun C D i di hi => ?_) ⟨rfl, ?_⟩
    · rw [List.getElem?_map, Option.map_eq_some_iff] at hi
      obtain ⟨x, hx, rfl⟩ := hi
      refine AS.mono (turn C D _ x (List.mem_of_getElem? hx)) fun σ2 h2 => TS.nil ?_
      rw [if_pos rfl, LC2.next hx]
      exact LC2.step (LC2.len hx hsz) hs2 h2.1 h2.2.1 h2.2.2
    · rw [List.length_map, List.take_length]; exact hP
theorem SUB.lcell {a : Addr} {l : List V} {k : Int} {d : V} {j : Nat} (hm : (a, Cell.list l) ∈ σ.mem) (hk : seqIndex? k l.length = some j) (hd : l[j]? = some d) (hf : -(2 ^ 63) ≤ k ∧ k < 2 ^ 63) (h : P d σ) : SUB X (.ref a) (.int k) σ P := fun Z s v1 v2 r h1 h2 => by
  cases h1
  obtain ⟨t, rfl⟩ := h2
  obtain ⟨its, ⟨n, ha⟩, hr⟩ := r.mem _ hm
  have pl : s.heap.IsList a its := ⟨_, ha, rfl, _, rfl⟩
  have hlen : its.size = l.length := by rw [← hr.length]; simp
  refine ⟨⟨_, _, ⟨_, ha, rfl⟩, slot_list_getitem.lookup⟩, ?_⟩
  obtain ⟨v, hv, hrv⟩ := hr.get hd
  have hv' : its[j]? = some v := by simpa using hv
  rcases seqIndex_cases hk with ⟨h0, h1, rfl⟩ | ⟨h0, h1, rfl⟩
  · exact wpAny_getItem_list pl h0 hf.2 hv' (hereV (Ext.refl r) hrv h)
  · exact wpAny_getItem_list_neg pl h0 (by omega) hf.1 (by rw [hlen]; exact hv') (hereV (Ext.refl r) hrv h)
theorem SUB.lcellLast {a : Addr} {l : List V} {d : V} (hm : (a, Cell.list (l ++ [d])) ∈ σ.mem) (h : P d σ) : SUB X (.ref a) (.int (-1)) σ P := by
  refine SUB.lcell (j := l.length) hm ?_ (by simp) (by decide) h
  have := seqIndex_neg (i := 0) (n := (l ++ [d]).length) (by simp)
  rw [show (-1 - ((0 : Nat) : Int)) = -1 by rfl] at this
  rw [this]; simp

/-- cells are forgotten -/
theorem Ext.forgetM {l m : List (Addr × Cell)} (hs : m.Sublist l) : ∀ (pre : List (Addr × Cell)) {σ' : St} {Z' : ZM}, Ext X σ Z s { σ' with mem := pre ++ l } Z' s' → ∃ Z'', Ext X σ Z s { σ' with mem := pre ++ m } Z'' s' ∧ Z'.le Z'' := by
  induction hs with
  | slnil => intro pre σ' Z' x; exact ⟨Z', x, fun _ _ e => e⟩
  | @cons l1 l2 a _ ih =>
    intro pre σ' Z' x
    have hin : a ∈ ({ σ' with mem := pre ++ a :: l2 } : St).mem := by simp
    obtain ⟨o, ho⟩ := x.rel.ex a.1 (x.rel.nonempty hin)
    obtain ⟨y, hle⟩ := x.freeze (D := a.1) (c := a.2) (m1 := pre) (m2 := l2) rfl ho
    obtain ⟨Z2, y2, hle2⟩ := ih pre (σ' := { σ' with mem := pre ++ l2 }) y
    exact ⟨Z2, y2, fun b o e => hle2 b o (hle b o e)⟩
  | @cons_cons l1 l2 a _ ih =>
    intro pre σ' Z' x
    have e : pre ++ a :: l2 = (pre ++ [a]) ++ l2 := by simp
    rw [e] at x
    obtain ⟨Z2, y2, hle2⟩ := ih (pre ++ [a]) x
    have e2 : (pre ++ [a]) ++ l1 = pre ++ a :: l1 := by simp
    rw [e2] at y2
    exact ⟨Z2, y2, hle2⟩
theorem EX.drop {b} {Q : Fl → St → Prop} (h : EX X b σ fun fl σ1 => ∃ m, m.Sublist σ1.mem ∧ Q fl { σ1 with mem := m }) : EX X b σ Q := fun Z s r =>
  wpAny_mono (h Z s r) (fun v s' hh0 => by
    obtain ⟨Z1, σ1, fl, x, hr, m, hs, hP⟩ := hh0
    obtain ⟨Z2, y, hle⟩ := Ext.forgetM hs [] (σ' := σ1) x
    refine ⟨_, _, fl, y, ?_, hP⟩
    cases fl with
    | ret d => obtain ⟨u, e, hu⟩ := hr; exact ⟨u, e, hu.mono hle⟩
    | _ => exact hr) fun _ _ h => h
end
end Mine
end
section
open PySem PySem.Spec PySem.Calls PyProof.Rows PySem.W PySem.SeqAt
namespace Mine
section
variable {X : Cx} {σ σ' : St} {Z Z' : ZM} {s s' : Shared} {P : V → St → Prop}
/-- a comprehension, whatever is made of its value -/
noncomputable def CVG (X : Cx) (e : PySem.Expr) (scope : Scope) (pos : Pos) (newAcc : Sem Value) (iter : PySem.Expr) (σ : St) (P : V → St → Prop) : Prop :=
  ∀ Z s (use : Option (Value → Sem Unit)) (R : Value → Shared → Prop), Rel X σ Z s →
    (∀ d v C σ1 Z1 s1 σ' Z' s', Ext X σ Z s σ1 Z1 s1 → Ext X σ1 Z1 s1 σ' Z' s' → VRel X.prog X.w Z' d v → P d σ' → C ∉ foot X σ' → Z' C = none → s1.heap.get? C = none → (∃ m, s'.heap.Ns C m) → compPost (model X.prog X.w) X.A Nope use R v C (.ok .next) s') →
    wpAny (model X.prog X.w) X.A (comprehension e scope X.env pos newAcc false (eval iter X.env) use) R Nope s
theorem CVG.lcg {elt target iter : PySem.Expr} {ifs : List PySem.Expr} {gs : List Comprehension} {scope : Scope} {pos : Pos}
    (h : EV X iter σ (LCG X target scope (.ListComp elt (⟨target, iter, ifs, 0⟩ :: gs) scope pos) ifs (.list []) (LCE P)))
    (has : ∀ g ∈ gs, g.is_async = 0) (hok : scopeOkC scope.names = true) (hfk : freeOk scope.names (σ.cel.map (·.1)) (σ.cap.map (·.1)) = true) (hk : scope.kind = .function) (hs : ∀ x, foldedSetIterable iter X.env x = pure x) :
    CVG X (.ListComp elt (⟨target, iter, ifs, 0⟩ :: gs) scope pos) scope (firstIterPos (⟨target, iter, ifs, 0⟩ :: gs) pos) (newList []) iter σ P := fun Z s use R r fin =>
  wp_comp (oa := { cls := .type "list", data := .seq #[] }) (c0 := .list []) rfl rfl has hok hk rfl (fun Z h a e => ⟨#[], ⟨0, e⟩, rfl⟩) (fun s Q h => wpAny_newList (items := []) h (Nat.zero_le _)) r h hs hfk fin
theorem CVG.dcg {kx vx target iter : PySem.Expr} {ifs : List PySem.Expr} {gs : List Comprehension} {scope : Scope} {pos : Pos} {c0 : Cell} (hc0 : c0 = .sdict [] [] ∨ c0 = .idict [] [])
    (h : EV X iter σ (LCG X target scope (.DictComp kx vx (⟨target, iter, ifs, 0⟩ :: gs) scope pos) ifs c0 (LCE P)))
    (has : ∀ g ∈ gs, g.is_async = 0) (hok : scopeOkC scope.names = true) (hfk : freeOk scope.names (σ.cel.map (·.1)) (σ.cap.map (·.1)) = true) (hk : scope.kind = .function) (hs : ∀ x, foldedSetIterable iter X.env x = pure x) :
    CVG X (.DictComp kx vx (⟨target, iter, ifs, 0⟩ :: gs) scope pos) scope (firstIterPos (⟨target, iter, ifs, 0⟩ :: gs) pos) newDict iter σ P := fun Z s use R r fin => by
  refine wp_comp (oa := { cls := .type "dict", data := .dict #[] }) (c0 := c0) rfl rfl has hok hk rfl (fun Z h a e => ?_) (fun s Q h => wpAny_newObj_type h (by exact Nat.zero_le _)) r h hs hfk fin
  have hd : ∀ {K : Type} [DecidableEq K] (knd : KeyKind X.prog X.w K), h.DictOf knd a [] := fun knd => ⟨_, #[], 0, e, ⟨rfl, rfl, rfl⟩, rfl, fun _ he => by simp at he, .nil, List.nodup_nil⟩
  rcases hc0 with rfl | rfl
  · exact ⟨[], hd _, rfl, rfl⟩
  · exact ⟨[], hd _, rfl, rfl⟩
theorem CVG.lcf {α : Type} {elt target iter : PySem.Expr} {ifs : List PySem.Expr} {scope : Scope} {pos : Pos}
    (h : EV X iter σ (LCF X α elt target ifs scope fun l σ1 => P (.list l) σ1))
    (hok : scopeOkC scope.names = true) (hfk : freeOk scope.names (σ.cel.map (·.1)) (σ.cap.map (·.1)) = true) (hk : scope.kind = .function) (hs : ∀ x, foldedSetIterable iter X.env x = pure x) :
    CVG X (.ListComp elt [⟨target, iter, ifs, 0⟩] scope pos) scope (firstIterPos [⟨target, iter, ifs, 0⟩] pos) (newList []) iter σ P :=
  CVG.lcg (J.mono h fun _ _ h => h.toG.mono fun _ _ h => LCE.list h) (fun _ h => nomatch h) hok hfk hk hs
theorem CVG.lcm {α : Type} {elt target iter : PySem.Expr} {scope : Scope} {pos : Pos}
    (h : EV X iter σ (LCM X α elt target scope fun l σ1 => P (.list l) σ1))
    (hok : scopeOkC scope.names = true) (hfk : freeOk scope.names (σ.cel.map (·.1)) (σ.cap.map (·.1)) = true) (hk : scope.kind = .function) (hs : ∀ x, foldedSetIterable iter X.env x = pure x) :
    CVG X (.ListComp elt [⟨target, iter, [], 0⟩] scope pos) scope (firstIterPos [⟨target, iter, [], 0⟩] pos) (newList []) iter σ P :=
  CVG.lcf (J.mono h fun _ _ h => h.toF) hok hfk hk hs
theorem CVG.dci {α : Type} {kx vx target iter : PySem.Expr} {ifs : List PySem.Expr} {scope : Scope} {pos : Pos}
    (h : EV X iter σ (DCF X α Int .int kx vx target ifs scope P .idict))
    (hok : scopeOkC scope.names = true) (hfk : freeOk scope.names (σ.cel.map (·.1)) (σ.cap.map (·.1)) = true) (hk : scope.kind = .function) (hs : ∀ x, foldedSetIterable iter X.env x = pure x) :
    CVG X (.DictComp kx vx [⟨target, iter, ifs, 0⟩] scope pos) scope (firstIterPos [⟨target, iter, ifs, 0⟩] pos) newDict iter σ P :=
  CVG.dcg (c0 := .idict [] []) (.inr rfl) (J.mono h fun _ _ h => h.toG (cmk := .idict) (fun _ _ _ _ _ _ _ hl h => IN.puti rfl hl h) fun _ _ => ⟨rfl, rfl⟩) (fun _ h => nomatch h) hok hfk hk hs
theorem CVG.use {e : PySem.Expr} {scope : Scope} {pos : Pos} {newAcc : Sem Value} {iter : PySem.Expr} {x : Str} {xp : Pos} {Q : Fl → St → Prop} (h : CVG X e scope pos newAcc iter σ fun d σ1 => AS X (.Name x xp) d σ1 (Q .next)) (r : Rel X σ Z s) :
    wpAny (model X.prog X.w) X.A (comprehension e scope X.env pos newAcc false (eval iter X.env) (some fun v => assign (.Name x xp) X.env v)) (fun _ s' => Post X (RFl X) σ Z s Q .next s') Nope s := by
  refine h Z s _ _ r fun d v C σ1 Z1 s1 σ' Z' s' x1 x2 hv hp hCf hCz hCn ⟨m, hn⟩ => ?_
  refine wpPost (hp Z' s' v x2.rel hv) (fun Z2 s2 σ2 b _ x3 _ hq => ?_)
  have hT : ¬ Tb X C := fun hh0 => by obtain ⟨o, vs, hb, _⟩ := hh0; obtain ⟨o2, h2⟩ := x1.rel.old.there _ _ hb; rw [hCn] at h2; cases h2
  obtain ⟨oC, hoC⟩ : ∃ o, s'.heap.get? C = some o := by obtain ⟨o, _, _, e, _⟩ := hn; exact ⟨o, e⟩
  have hn2 : s2.heap.Ns C m := hn.at' fun o e => x3.keep C o e hCf hT
  have hCf2 : C ∉ foot X σ2 := fun hh => by
    rcases x3.footNew hh with h | h
    · exact hCf h
    · rw [hoC] at h; cases h
  have hCz2 : Z2 C = none := by
    cases e : Z2 C with
    | none => rfl
    | some o =>
      rcases x3.znew C o e with h | h | h
      · rw [hCz] at h; cases h
      · exact absurd (by unfold foot; exact List.mem_cons_of_mem _ (List.mem_append_right _ h)) hCf
      · rw [hoC] at h; cases h
  exact ⟨m, hn2, fun h' hs' => here (x1.trans (comp_fin (Q := fun _ _ => True) (d := d) (v := v) x1.rel (x2.trans x3) hCf2 hCz2 hCn hs')) rfl_next hq⟩
theorem ES.asgLC {elt target iter : PySem.Expr} {ifs : List PySem.Expr} {gs : List Comprehension} {scope : Scope} {pos xp cpos : Pos} {x : Str} {Q : Fl → St → Prop}
    (h : CVG X (.ListComp elt (⟨target, iter, ifs, 0⟩ :: gs) scope cpos) scope (firstIterPos (⟨target, iter, ifs, 0⟩ :: gs) cpos) (newList []) iter σ fun d σ1 => AS X (.Name x xp) d σ1 (Q .next))
    (hs : swapsWithSole [.Name x xp] (.ListComp elt (⟨target, iter, ifs, 0⟩ :: gs) scope cpos) pos.line X.env = pure true)
    (he : (assignEach [.Name x xp] X.env).map (·.2) = [assign (.Name x xp) X.env]) : ES X (.Assign [.Name x xp] (.ListComp elt (⟨target, iter, ifs, 0⟩ :: gs) scope cpos) pos) σ Q := fun Z s r => by
  show wpAny _ _ (exec _ _) _ _ _
  rw [arm_exec_Assign, hs, he]
  refine wpAny_bind (wpAny_standAt (wpAny_bind (wpAny_pure ?_)))
  simp only [if_true]
  rw [arm_evalThenUse_ListComp]
  refine wpAny_bind (wpAny_bind (wpAny_mono (h.use r) (fun _ s' q => wpAny_pure (wpAny_pure q)) fun _ _ h => h))
theorem ES.asgDC {kx vx target iter : PySem.Expr} {ifs : List PySem.Expr} {gs : List Comprehension} {scope : Scope} {pos xp cpos : Pos} {x : Str} {Q : Fl → St → Prop}
    (h : CVG X (.DictComp kx vx (⟨target, iter, ifs, 0⟩ :: gs) scope cpos) scope (firstIterPos (⟨target, iter, ifs, 0⟩ :: gs) cpos) newDict iter σ fun d σ1 => AS X (.Name x xp) d σ1 (Q .next))
    (hs : swapsWithSole [.Name x xp] (.DictComp kx vx (⟨target, iter, ifs, 0⟩ :: gs) scope cpos) pos.line X.env = pure true)
    (he : (assignEach [.Name x xp] X.env).map (·.2) = [assign (.Name x xp) X.env]) : ES X (.Assign [.Name x xp] (.DictComp kx vx (⟨target, iter, ifs, 0⟩ :: gs) scope cpos) pos) σ Q := fun Z s r => by
  show wpAny _ _ (exec _ _) _ _ _
  rw [arm_exec_Assign, hs, he]
  refine wpAny_bind (wpAny_standAt (wpAny_bind (wpAny_pure ?_)))
  simp only [if_true]
  rw [arm_evalThenUse_DictComp]
  refine wpAny_bind (wpAny_bind (wpAny_mono (h.use r) (fun _ s' q => wpAny_pure (wpAny_pure q)) fun _ _ h => h))
end
end Mine
end
section
open PySem PySem.Spec PySem.Calls PyProof.Rows PySem.W PySem.SeqAt
namespace Mine
section
variable {X : Cx} {σ σ' : St} {Z Z' : ZM} {s s' : Shared}
variable {P : V → St → Prop}
theorem EV.lcgM {elt target iter : PySem.Expr} {ifs : List PySem.Expr} {gs : List Comprehension} {scope : Scope} {pos : Pos}
    (h : EV X iter σ (LCG X target scope (.ListComp elt (⟨target, iter, ifs, 0⟩ :: gs) scope pos) ifs (.list []) (LCX P)))
    (has : ∀ g ∈ gs, g.is_async = 0) (hok : scopeOkC scope.names = true) (hfk : freeOk scope.names (σ.cel.map (·.1)) (σ.cap.map (·.1)) = true) (hk : scope.kind = .function) (hs : ∀ x, foldedSetIterable iter X.env x = pure x) :
    EV X (.ListComp elt (⟨target, iter, ifs, 0⟩ :: gs) scope pos) σ P := fun Z s r => by
  rw [eval_ListComp]
  refine wp_compM (oa := { cls := .type "list", data := .seq #[] }) (c0 := .list []) (use := Option.none) rfl rfl has hok hk rfl (fun Z h a e => ⟨#[], ⟨0, e⟩, rfl⟩) (fun s Q h => wpAny_newList (items := []) h (Nat.zero_le _)) r h hs hfk ?_
  intro d v C σ1 Z1 s1 σ' Z' s' x1 x2 hv hq hCf hCz hCn ⟨m, hn⟩
  exact ⟨m, hn, fun h' hs' => here (x1.trans (comp_fin (Q := P) (d := d) (v := v) x1.rel x2 hCf hCz hCn hs')) hv hq⟩
theorem LCX.list {m : List (Addr × Cell)} {c : Cell} {σ1 : St} (h : m = σ1.mem ∧ ∃ l, c = .list l ∧ ∀ D, P (.ref D) { σ1 with mem := σ1.mem ++ [(D, .list l)] }) : LCX P m c σ1 := by
  obtain ⟨rfl, l, rfl, h⟩ := h; exact h
theorem EV.lcfM {α : Type} {elt target iter : PySem.Expr} {ifs : List PySem.Expr} {scope : Scope} {pos : Pos}
    (h : EV X iter σ (LCF X α elt target ifs scope fun l σ1 => ∀ D, P (.ref D) { σ1 with mem := σ1.mem ++ [(D, .list l)] }))
    (hok : scopeOkC scope.names = true) (hfk : freeOk scope.names (σ.cel.map (·.1)) (σ.cap.map (·.1)) = true) (hk : scope.kind = .function) (hs : ∀ x, foldedSetIterable iter X.env x = pure x) :
    EV X (.ListComp elt [⟨target, iter, ifs, 0⟩] scope pos) σ P :=
  EV.lcgM (J.mono h fun _ _ h => h.toG.mono fun _ _ h => LCX.list h) (fun _ h => nomatch h) hok hfk hk hs
theorem Cut.last {a : Addr} {c : Cell} : ∀ (m : List (Addr × Cell)), Cut a c (m ++ [(a, c)]) m
  | [] => .here
  | _ :: m => .tail (Cut.last m)
theorem FzE.refl {a : Addr} {w : V} : ∀ l, FzE a w l l
  | [] => .nil
  | _ :: l => .same (FzE.refl l)
theorem EV.dictE {pos} (h : P (.idict [] []) σ) : EV X (.Dict [] [] pos) σ P :=
  EV.frz (EV.dictMI fun a => ⟨a, _, σ, _, ⟨rfl, ⟨_, Cut.last _, .rest⟩, FzE.refl _, FzE.refl _, rfl⟩, .at, h⟩)
/-! and, or as tests -/
noncomputable def AT (X : Cx) (op : BoolOp) (es : List PySem.Expr) (σ : St) (Q : Bool → St → Prop) : Prop := J X (REq (α := Bool)) (allTrue op es X.env) σ Q
theorem ET.bool {op es pos} {Q : Bool → St → Prop} (h : AT X op es σ Q) : ET X (.BoolOp op es pos) σ Q := fun Z s r => wpAny_isTrue_BoolOp (h Z s r)
theorem AT.andNil {Q : Bool → St → Prop} (h : Q true σ) : AT X .And [] σ Q := fun Z s r => wpAny_allTrue_And_nil (here (b := true) (Ext.refl r) rfl h)
theorem AT.orNil {Q : Bool → St → Prop} (h : Q false σ) : AT X .Or [] σ Q := fun Z s r => wpAny_allTrue_Or_nil (here (b := false) (Ext.refl r) rfl h)
theorem AT.andCons {e es} {Q : Bool → St → Prop} (h : ET X e σ fun b σ1 => if b then AT X .And es σ1 Q else Q false σ1) : AT X .And (e :: es) σ Q := fun Z s r =>
  wpAny_allTrue_And_cons (J.use h r fun Z1 s1 σ1 b b' x1 r1 h1 => by
    cases r1
    cases b with
    | true => exact J.after h1 x1
    | false => exact here (b := false) x1 rfl h1)
theorem AT.orCons {e es} {Q : Bool → St → Prop} (h : ET X e σ fun b σ1 => if b then Q true σ1 else AT X .Or es σ1 Q) : AT X .Or (e :: es) σ Q := fun Z s r =>
  wpAny_allTrue_Or_cons (J.use h r fun Z1 s1 σ1 b b' x1 r1 h1 => by
    cases r1
    cases b with
    | true => exact here (b := true) x1 rfl h1
    | false => exact J.after h1 x1)
end
end Mine
end
section
open PySem PySem.Spec PySem.Calls PyProof.Rows PySem.W PySem.SeqAt
namespace Mine
section
variable {X : Cx} {σ σ' : St} {Z Z' : ZM} {s s' : Shared} {P : V → St → Prop}
noncomputable def cellIs (g : Addr) (o : Obj) : Prop := o.data = .cell (some (.ref g))
noncomputable def Cx.noOwn (X : Cx) : Cx := { X with own := [] }
/-- the frame's own cell goes to the ledger -/
theorem Rel.disown (r : Rel X σ Z s) {c g : Addr} {y : Str} (hown : X.own = [c]) (hy : (y, some (V.ref g)) ∈ σ.cel) (h3 : 3 < c) : Rel X.noOwn { σ with cel := [], mem := σ.mem ++ [(c, .raw (cellIs g))] } Z s := by
  have km : keys (σ.mem ++ [(c, Cell.raw (cellIs g))]) = keys σ.mem ++ [c] := by simp [keys]
  have hcell : ∃ o, s.heap.get? c = some o ∧ cellIs g o := by
    obtain ⟨c', uo, h1, h2, ⟨o, ho, hd⟩, h4⟩ := r.cells y _ hy
    rw [hown, List.mem_singleton] at h1
    subst h1
    obtain ⟨u, hu, hr⟩ := h4
    cases hr
    exact ⟨o, ho, by rw [cellIs, hd, hu]⟩
  have ft : ∀ a, a ∈ foot X.noOwn { σ with cel := [], mem := σ.mem ++ [(c, .raw (cellIs g))] } → a ∈ foot X σ := fun a ha => by
    unfold foot at ha ⊢
    rcases List.mem_cons.mp ha with h | h
    · exact h ▸ List.mem_cons_self
    · rcases List.mem_append.mp h with h | h
      · cases h
      · have h : a ∈ keys (σ.mem ++ [(c, Cell.raw (cellIs g))]) := h
        rw [km] at h
        rcases List.mem_append.mp h with h | h
        · exact List.mem_cons_of_mem _ (List.mem_append_right _ h)
        · rw [List.mem_singleton] at h
          exact List.mem_cons_of_mem _ (List.mem_append_left _ (by rw [hown, h]; exact List.mem_singleton.mpr rfl))
  refine ⟨⟨r.fr.lnd, r.fr.lk, (fun p hp => by cases hp), List.nodup_nil, (fun x y c h => by cases h), r.fr.pk, fun x hx => r.fr.dbg x ?_, r.fr.kind⟩, r.zin, r.st, r.ztab, r.old, r.os, r.gens, r.ns, (fun _ _ h => by cases h), r.cap, (fun _ h => by cases h), fun p hp => ?_, ?_, fun a ha => r.zfoot a (ft a ha), fun a ha => r.bfoot a (ft a ha), fun a ha => r.ex a (ft a ha), r.g3, fun a ha => ?_⟩
  · rcases List.mem_append.mp hx with h | h
    · exact List.mem_append_left _ h
    · exact List.mem_append_right _ (List.mem_append_right _ (by simpa using h))
  · rcases List.mem_append.mp hp with h | h
    · exact r.mem p h
    · rw [List.mem_singleton] at h; subst h; exact hcell
  · have nd := r.nd
    unfold foot at nd ⊢
    show (X.env.locals :: ([] ++ keys (σ.mem ++ [(c, Cell.raw (cellIs g))]))).Nodup
    rw [km, List.nil_append]
    rw [hown] at nd
    have : (X.env.locals :: ([c] ++ keys σ.mem)).Perm (X.env.locals :: (keys σ.mem ++ [c])) := List.Perm.cons _ List.perm_append_comm
    exact this.nodup_iff.mp nd
  · have ha : a ∈ keys (σ.mem ++ [(c, Cell.raw (cellIs g))]) := ha
    rw [km] at ha
    rcases List.mem_append.mp ha with h | h
    · exact r.low a h
    · rw [List.mem_singleton] at h; subst h; exact h3
theorem CALLR.defO {a : Addr} {o : Obj} {fd : FuncData} {body : List Stmt} {k : Nat} {ps : List Str} {ds : List V} {loc cel : List (Str × Option V)} {sub rest : List (Addr × Cell)}
    (hA : Rm X.A (k + 1)) (hlim : X.base.NoLimit) (ho : X.base.get? a = some o) (hc : o.cls ≠ .none) (hd : o.data = .func fd) (hbody : fd.body = .stmts body) (hclo : fd.closure = []) (hcd : X.base.CodeRec fd.code fd.qualname)
    (hbind : ∀ vs : List Value, vs.length = ds.length → bindArgs fd ⟨vs, []⟩ = pure (ps.zip vs)) (hlen : ps.length = ds.length)
    (hok : scopeOk fd.scope.names ps (loc.map (·.1)) (cel.map (·.1)) = true) (hl : LocOk ps ds loc) (hcl : LocOk ps ds cel) (hmem : σ.mem = sub ++ rest)
    (hone : ∀ L, (X.callee fd L a).own = [L + 1])
    (h : ∀ L, EX (X.callee fd L a) body ⟨loc, cel, [], sub⟩ fun f σ' => ∃ y g, (y, some (V.ref g)) ∈ σ'.cel ∧ P (retV f) { σ with mem := σ'.mem ++ [(L + 1, .raw (cellIs g))] ++ rest })
    (hco : fd.scope.isCoroutine = false := by rfl) (hgen : fd.scope.isGenerator = false := by rfl) (hk : fd.scope.kind = .function := by rfl) : CALLR X (.ref a) ds σ P := fun Z s vs R r hvs hR => by
  refine CALLR.core hA hlim ho hc hd hbody hclo hcd hbind hlen hok hl hcl hmem r hvs (fun L h₁ tk hL hk₁ none_of ftc r₁ => ?_) hco hgen hk
  refine wpAny_mono (h L Z _ r₁) (fun f s' q => ?_) fun _ _ h => h.elim
  obtain ⟨Z', σ', f', x, hf, hP⟩ := q
  obtain ⟨y0, g, hy0, hP⟩ := hP
  have hown : (X.callee fd L a).own = [L + 1] := hone L
  have h3 : 3 < L + 1 := Nat.lt_succ_of_lt (hL ▸ r.sz3)
  have rd := x.rel.disown hown hy0 h3
  have fL1 : s.heap.get? (L + 1) = none := none_of _ (Nat.le_succ _)
  obtain ⟨x2, hS⟩ := leave' (X := X) (A' := (X.callee fd L a).A) (env' := (X.callee fd L a).env) (own' := []) (σ₁ := ⟨loc, [], [], sub ++ [(L + 1, .raw fun _ => True)]⟩) (sub := sub) (rest := rest) r hmem hk₁ (fun _ _ h => h) (fun a o h => .inl h) (fun b hb => by
    unfold foot at hb
    rcases List.mem_cons.mp hb with e0 | hb
    · have e0 : b = L := e0
      exact .inr (none_of b (Nat.le_of_eq e0.symm))
    · have hb : b ∈ [] ++ keys (sub ++ [(L + 1, Cell.raw fun _ => True)]) := hb
      rw [List.nil_append, show keys (sub ++ [(L + 1, Cell.raw fun _ => True)]) = keys sub ++ [L + 1] by simp [keys]] at hb
      rcases List.mem_append.mp hb with hb | hb
      · exact .inl hb
      · rw [List.mem_singleton] at hb; exact .inr (by rw [hb]; exact fL1)) rd x.le (fun b o e hb ht hn => by
      refine x.keep b o e (fun hf => hb ?_) ht
      unfold foot at hf ⊢
      rcases List.mem_cons.mp hf with e0 | hf
      · exact e0 ▸ List.mem_cons_self
      · rcases List.mem_append.mp hf with hf | hf
        · rw [hown, List.mem_singleton] at hf; rw [hf] at hn; exact absurd fL1 hn
        · refine List.mem_cons_of_mem _ (List.mem_append_right _ ?_)
          show b ∈ keys (sub ++ [(L + 1, Cell.raw fun _ => True)])
          rw [show keys (sub ++ [(L + 1, Cell.raw fun _ => True)]) = keys sub ++ [L + 1] by simp [keys]]
          exact List.mem_append_left _ hf) (fun b hb => by
      have hb : b ∈ keys (σ'.mem ++ [(L + 1, Cell.raw (cellIs g))]) := hb
      rw [show keys (σ'.mem ++ [(L + 1, Cell.raw (cellIs g))]) = keys σ'.mem ++ [L + 1] by simp [keys]] at hb
      show b ∈ keys (sub ++ [(L + 1, Cell.raw fun _ => True)]) ∨ _
      rw [show keys (sub ++ [(L + 1, Cell.raw fun _ => True)]) = keys sub ++ [L + 1] by simp [keys]]
      rcases List.mem_append.mp hb with hb | hb
      · rcases x.new b hb with h | h
        · exact .inl (List.mem_append_left _ h)
        · exact .inr h
      · exact .inl (List.mem_append_right _ hb)) (fun b o e => by
      rcases x.znew b o e with h | h | h
      · exact .inl h
      · refine .inr (.inl ?_)
        show b ∈ keys (sub ++ [(L + 1, Cell.raw fun _ => True)])
        rw [show keys (sub ++ [(L + 1, Cell.raw fun _ => True)]) = keys sub ++ [L + 1] by simp [keys]]
        exact List.mem_append_left _ h
      · exact .inr (.inr h))
  exact hR _ _ (here x2 (CALLR.out (Y := X.callee fd L a) hS hf rfl rfl) hP)

end
end Mine
end
section
open PySem PySem.Spec PySem.Calls PyProof.Rows PySem.W PySem.SeqAt
namespace Mine
section
variable {X : Cx} {σ σ' : St} {Z Z' : ZM} {s s' : Shared} {P : V → St → Prop}
/-- a free name, its cell in the ledger -/
theorem EV.capM {x pos g c} (hk : X.env.kindOf x = some .free) (hc : X.env.cells.lookup x = some c) (hm : (c, Cell.raw (cellIs g)) ∈ σ.mem) (h : P (.ref g) σ) (d1 : (x == ("__debug__" : Str)) = false := by kernel_rfl) (d2 : (x == ("__classdict__" : Str)) = false := by kernel_rfl) : EV X (.Name x pos) σ P := fun Z s r => by
  obtain ⟨o, ho, hd⟩ := r.mem _ hm
  have hv : s.heap.IsCell c (some (.ref g)) := ⟨o, ho, hd⟩
  refine wpAny_Name ?_ d1
  exact wpAny_loadName_free r.fr.kind hk hc hv (hereV (Ext.refl r) vr_ref h) d2

noncomputable def codeIs (q : Str) (o : Obj) : Prop := ∃ vs t, o.data = .fields vs ∧ vs[1]? = some (.str q t)
theorem EV.lam {params : Arguments} {body : PySem.Expr} {scope : Scope} {pos : Pos} {clos : List (Str × Addr)} {ps : Array Value} {mg : Str → Option Value} {c Pt : Addr} {mem' : Addr → List (Addr × Cell)}
    (hdef : defaultsOf params X.env = ([], [])) (hcl : closureFor scope X.env = pure clos) (hg0 : X.env.globals = mainGlobals) (hg : X.base.Ns mainGlobals mg) (hcode : X.env.code = .ref c) (hC : CodeHd X.base c Pt)
    (hm : (Pt, Cell.raw (· = tabObj ps)) ∈ σ.mem) (ht : TriplesOk ps.toList) (hnf : codeAmong pos ps.toList = Option.none)
    (hb : ∃ bm ob, mg "__builtins__" = some (.ref bm) ∧ bm ≠ builtinsNs ∧ bm ≠ mainGlobals ∧ X.base.get? bm = some ob ∧ ob.cls = .type "module" ∧ ob.dict = some builtinsNs ∧ ob.data = .plain)
    (hu : ∀ c', UpM Pt (.raw (· = tabObj (ps ++ #[rawInt pos.line, rawInt pos.col, .ref c']))) σ.mem (mem' c'))
    (h : ∀ R c' ctv, P (.ref R) { σ with mem := mem' c' ++ [(c', .raw (codeIs (X.env.qual ++ "<lambda>"))), (R, .raw (· = kla_obj "<lambda>" (X.env.qual ++ "<lambda>") params body scope clos ((mg "__name__").getD .none) c' ctv))] }) :
    EV X (.Lambda params body scope pos) σ P := fun Z s r => by
  obtain ⟨ob, hob, rfl⟩ := r.mem _ hm
  have hPf : Pt ∈ foot X σ := r.nonempty hm
  have hPb := r.bfoot _ hPf
  have hC' : CodeHd s.heap c Pt := by
    obtain ⟨o, vs, file, tf, flags, tg, inF, text, tt, e1, e2, r'⟩ := hC
    exact ⟨o, vs, file, tf, flags, tg, inF, text, tt, r.base e1 (by rw [e2]; intro h; cases h), e2, r'⟩
  have hgP : mainGlobals ≠ Pt := fun e => by
    obtain ⟨o, _, _, ho, _⟩ := hg
    rw [e, hPb] at ho; cases ho
  have hB : s.heap.BuiltinsAt mg Pt := by
    obtain ⟨bm, ob, b1, b2, b3, b4, b5, b6⟩ := hb
    exact ⟨bm, ob, b1, b2, b3, (fun e => by rw [e, hPb] at b4; cases b4), r.base b4 (by rw [b5]; intro h; cases h), b5, b6⟩
  refine kla_eval hdef ?_
  refine kla_makeFunction hcl hg0 (r.baseNs hg) hcode hC' hob ht hnf hgP hB fun c' ctv h' tk hx hge hlt hrec htb => ?_
  have hPlt := Heap.lt_size hob
  obtain ⟨c2, oc, vs, t, e2, hoc, hdc, hv⟩ := hrec
  cases e2
  have x1 : Ext X σ Z s { σ with mem := mem' c' } Z { s with heap := s.heap.update Pt (fun _ => tabObj (ps ++ #[rawInt pos.line, rawInt pos.col, .ref c'])) } :=
    r.setMemK (tk := s.toks) (hu c') (fun b o hb' e => (Heap.get?_update_other _ _ (Ne.symm hb')).trans e) ⟨_, Heap.get?_update_self _ hob rfl, rfl⟩
  have x2 : Ext X { σ with mem := mem' c' } Z { s with heap := s.heap.update Pt (fun _ => tabObj (ps ++ #[rawInt pos.line, rawInt pos.col, .ref c'])) } { σ with mem := mem' c' ++ [(c', .raw (codeIs (X.env.qual ++ "<lambda>"))), (h'.objs.size, .raw (· = kla_obj "<lambda>" (X.env.qual ++ "<lambda>") params body scope clos ((mg "__name__").getD .none) c' ctv))] } Z { s with heap := h'.push (kla_obj "<lambda>" (X.env.qual ++ "<lambda>") params body scope clos ((mg "__name__").getD .none) c' ctv), toks := tk } := by
    refine Ext.addMs (σ := { σ with mem := mem' c' }) x1.rel (fun b o e => ?_) (by simpa [keys] using Nat.ne_of_lt hlt) fun p hp => ?_
    · by_cases hbP : b = Pt
      · subst hbP
        have := Heap.get?_update_self (fun _ => tabObj (ps ++ #[rawInt pos.line, rawInt pos.col, .ref c'])) hob rfl
        have e : (s.heap.update b (fun _ => tabObj (ps ++ #[rawInt pos.line, rawInt pos.col, .ref c']))).get? b = some o := e
        rw [this] at e; cases e
        exact Heap.get?_push_of_some _ htb
      · have e : (s.heap.update Pt (fun _ => tabObj (ps ++ #[rawInt pos.line, rawInt pos.col, .ref c']))).get? b = some o := e
        rw [Heap.get?_update_other _ _ (Ne.symm hbP)] at e
        exact Heap.get?_push_of_some _ (hx b o hbP e)
    · have hsz : ({ s with heap := s.heap.update Pt (fun _ => tabObj (ps ++ #[rawInt pos.line, rawInt pos.col, .ref c'])) } : Shared).heap.objs.size = s.heap.objs.size := Heap.size_update _ _ _
      have s3 := r.sz3
      simp only [List.mem_cons, List.not_mem_nil, or_false] at hp
      rcases hp with rfl | rfl
      · exact ⟨Heap.get?_none_of_le (by rw [hsz]; exact hge), ⟨oc, Heap.get?_push_of_some _ hoc, vs, t, hdc, hv⟩, Nat.lt_of_lt_of_le s3 hge⟩
      · exact ⟨Heap.get?_none_of_le (by rw [hsz]; exact Nat.le_of_lt (Nat.lt_of_le_of_lt hge hlt)), ⟨_, Heap.get?_push_size _ rfl, rfl⟩, Nat.lt_trans (Nat.lt_of_lt_of_le s3 hge) hlt⟩
  exact hereV (x1.trans x2) vr_ref (h _ _ _)
end
end Mine
end
section
open PySem PySem.Spec PySem.Calls PyProof.Rows PySem.W PySem.SeqAt Builtin Builtin.ObjectAttr
namespace Mine
theorem mro_fn : mroOf (.type "function") = pure [.type "function", .type "object"] := by kernel_rfl
theorem slot_fn_sa : Slot "function" "__setattr__" "object.__setattr__" :=
  .of (owner := "object") (n := "__setattr__") (by rw [typeLookup_type, builtinLookup_eq_fast]; kernel_rfl) (by decide +kernel) (by decide +kernel) (by decide +kernel)
    (by first | exact .inl (by decide +kernel) | exact .inr (by decide +kernel)) (by rw [isSubtype_type]; kernel_rfl)
theorem passes_fn (x : Value) : refuseLoop x "__setattr__" [.type "function", .type "object"] = pure () := by kernel_rfl
section
variable {prog : Program} {w : World} {A : Around} {E : Value → Shared → Prop} {h : Heap} {g : Array GenState} {d : Drawn} {t : Nat} {os : OsState} {x : Addr} {name : Str} {v : Value}
theorem fn_store_entry {o : Obj} {fd : FuncData} {tk : Tok} {Q : Fin → Shared → Prop} (hx : h.get? x = some o) (hc : o.cls = .type "function") (hdat : o.data = .func fd) (hdn : o.dict = none) (hB : typeLookup (.type "function") name = pure none)
    (hq : ∀ h' tk', h'.get? x = some { o with dict := some h.objs.size } → (h'.Ns1 h.objs.size fun y => if y = name then some v else none) → (∀ b o', b ≠ x → h.get? b = some o' → h'.get? b = some o') → Q (.done (.ret .none)) ⟨h', g, d, tk', os⟩) :
    wpAny (model prog w) A (Builtin.«object.__setattr__» ⟨[.ref x, .str name tk, v], []⟩) Q E ⟨h, g, d, t, os⟩ := by
  have hpass := passes_fn (.ref x)
  unfold Builtin.«object.__setattr__»
  repeat (first | rw [refuse_eq] | rw [mro_fn] | rw [hpass] | rw [hB] | (with_reducible refine wpAny_loadPart_at hx ?_; rw [hc]) | wp_step)
  rw [hdn, if_neg (by decide), hdat]
  have hx₁ : (h.push { cls := .type "dict", data := .dict #[] }).get? x = some o := Heap.get?_push_of_some _ hx
  have hxs : x ≠ h.objs.size := Nat.ne_of_lt (Heap.lt_size hx)
  refine wpAny_bind (wpAny_alloc' ?_)
  refine wpAny_bind (wpAny_update' hx₁ ?_)
  refine wpAny_pure ?_
  have hgd : ((h.push { cls := .type "dict", data := .dict #[] }).update x fun o => { cls := o.cls, dict := some h.objs.size, data := o.data, slots := o.slots }).get? h.objs.size
      = some { cls := .type "dict", data := .dict #[] } :=
    (Heap.get?_update_ne _ _ _ _ hxs.symm).trans (Heap.get?_push_at rfl rfl)
  have hnd : ((h.push { cls := .type "dict", data := .dict #[] }).update x fun o => { cls := o.cls, dict := some h.objs.size, data := o.data, slots := o.slots }).Ns h.objs.size (fun _ => none) :=
    ⟨_, #[], _, hgd, rfl, fun e he => absurd he (by simp), fun _ => rfl⟩
  show wpAny _ _ (storeInDict h.objs.size (.str name tk) name v) _ _ _
  unfold storeInDict newKeyGuard
  refine wpAny_bind (wpAny_pure (wpAny_bind (wpAny_nsSet1 (Heap.Ns1.of_empty hnd) fun h' hn' hs => ?_)))
  obtain ⟨oD, esD, epD, hoD, hdD, hcD⟩ := hn'.count (Within.cons name v Within.nil)
  refine wpAny_bind (wpAny_lookBehind hoD (by rw [hdD]; exact pastItsLine_dict (Nat.le_trans hcD (by rw [List.length_cons, List.length_nil, sizeLine_eq]; omega))) ?_)
  wp_walk
  refine hq h' _ ?_ hn' fun b ob hbx hb => (hs.2 b (Nat.ne_of_lt (Heap.lt_size hb))).trans ((Heap.get?_update_ne _ _ _ _ hbx).trans (Heap.get?_push_of_some _ hb))
  refine (hs.2 x hxs).trans (Heap.get?_update_self _ hx₁ ?_)
  have hfr := (Heap.get?_some_iff.mp hx).2
  obtain ⟨oc, od, odt, osl⟩ := o
  cases odt <;> first | rfl | exact hfr
theorem args_sa (a b c : Value) : argsOk "object.__setattr__" ⟨[a, b, c], []⟩ := by unfold argsOk; kernel_rfl
theorem fn_store {o : Obj} {fd : FuncData} {Q : Unit → Shared → Prop} (hx : h.get? x = some o) (hc : o.cls = .type "function") (hdat : o.data = .func fd) (hdn : o.dict = none) (hB : typeLookup (.type "function") name = pure none)
    (hq : ∀ h' tk', h'.get? x = some { o with dict := some h.objs.size } → (h'.Ns1 h.objs.size fun y => if y = name then some v else none) → (∀ b o', b ≠ x → h.get? b = some o' → h'.get? b = some o') → Q () ⟨h', g, d, tk', os⟩) :
    wpAny (model prog w) A (setAttr (.ref x) name v) Q E ⟨h, g, d, t, os⟩ := by
  unfold setAttr
  refine wpAny_bind (wpAny_mkText ?_)
  refine wpAny_bind (wpAny_callSpecial?_slot (T := "function") ⟨o, hx, hc⟩ slot_fn_sa (wpAny_call_entry slot_fn_sa ⟨o, hx, hc⟩ F.entry_object_sa (fn_store_entry hx hc hdat hdn hB fun h' tk' h1 h2 h3 => ?_) (args_sa _ _ _)))
  exact ⟨.none, rfl, wpAny_pure (hq h' tk' h1 h2 h3)⟩
end
end Mine
end
section
open PySem PySem.Spec PySem.Calls PyProof.Rows PySem.W PySem.SeqAt
namespace Mine
section
variable {X : Cx} {σ σ' : St} {Z Z' : ZM} {s s' : Shared} {P : V → St → Prop}
/-- an attribute of a function object is stored: its dict is new -/
theorem SETA.fn {attr : Str} {x : Addr} {o : Obj} {fd : FuncData} {d : V} {Q : St → Prop} {mem' : Addr → List (Addr × Cell)} (hm : (x, Cell.raw (· = o)) ∈ σ.mem) (hc : o.cls = .type "function") (hdat : o.data = .func fd) (hdn : o.dict = none)
    (hB : typeLookup (.type "function") attr = pure none) (hu : ∀ ds, UpM x (.raw (· = { o with dict := some ds })) σ.mem (mem' ds)) (h : ∀ ds, Q { σ with mem := mem' ds ++ [(ds, .ns [(attr, d)])] }) : SETA X attr x d σ Q := fun Z s v r hv => by
  obtain ⟨o', ho, rfl⟩ := r.mem _ hm
  have s3 := r.sz3
  obtain ⟨hh, g, d1, t, os⟩ := s
  refine fn_store ho hc hdat hdn hB fun h' tk' h1 h2 h3 => ?_
  have hfr : o'.isFreed = false := (Heap.get?_some_iff.mp ho).2
  have ho' : hh.get? x = some o' := ho
  have hf2 : ({ o' with dict := some hh.objs.size } : Obj).isFreed = false := (Heap.get?_some_iff.mp h1).2
  have x1 : Ext X σ Z ⟨hh, g, d1, t, os⟩ { σ with mem := mem' hh.objs.size } Z ⟨hh.update x (fun _ => { o' with dict := some hh.objs.size }), g, d1, t, os⟩ :=
    r.setMemK (tk := t) (hu _) (fun b o hb' e => (Heap.get?_update_other _ _ (Ne.symm hb')).trans e) ⟨_, Heap.get?_update_self _ ho' hf2, rfl⟩
  have hsz : (hh.update x (fun _ => { o' with dict := some hh.objs.size })).objs.size = hh.objs.size := Heap.size_update _ _ _
  have x2 : Ext X { σ with mem := mem' hh.objs.size } Z ⟨hh.update x (fun _ => { o' with dict := some hh.objs.size }), g, d1, t, os⟩ { σ with mem := mem' hh.objs.size ++ [(hh.objs.size, .ns [(attr, d)])] } Z ⟨h', g, d1, tk', os⟩ := by
    refine Ext.addMs (σ := { σ with mem := mem' hh.objs.size }) (tk := tk') x1.rel (fun b ob e => ?_) (by simp [keys]) fun p hp => ?_
    · by_cases hbx : b = x
      · subst hbx
        have e : (hh.update b (fun _ => { o' with dict := some hh.objs.size })).get? b = some ob := e
        rw [Heap.get?_update_self _ ho' hf2] at e; cases e
        exact h1
      · have e : (hh.update x (fun _ => { o' with dict := some hh.objs.size })).get? b = some ob := e
        rw [Heap.get?_update_other _ _ (Ne.symm hbx)] at e
        exact h3 b ob hbx e
    · simp only [List.mem_cons, List.not_mem_nil, or_false] at hp
      subst hp
      refine ⟨Heap.get?_none_of_le (by show (hh.update x _).objs.size ≤ _; rw [hsz]; exact Nat.le_refl _), ⟨_, h2, fun y e hy => ?_, fun y hy => ?_⟩, s3⟩
      · simp only [List.mem_cons, List.not_mem_nil, or_false] at hy
        cases hy
        exact ⟨v, if_pos rfl, hv⟩
      · exact if_neg (by simpa using hy)
  exact ⟨_, _, (), x1.trans x2, rfl, h _⟩
end
end Mine
end
section
open PySem PySem.Spec PySem.Calls PyProof.Rows PySem.W PySem.SeqAt Builtin Builtin.ObjectAttr
namespace Mine
theorem slot_fn_ga : Slot "function" "__getattribute__" "object.__getattribute__" :=
  .of (owner := "object") (n := "__getattribute__") (by rw [typeLookup_type, builtinLookup_eq_fast]; kernel_rfl) (by decide +kernel) (by decide +kernel) (by decide +kernel)
    (by first | exact .inl (by decide +kernel) | exact .inr (by decide +kernel)) (by rw [isSubtype_type]; kernel_rfl)
theorem entry_ga : entryFor table "object.__getattribute__" = some Builtin.«object.__getattribute__» := entryFor_of_tree (by kernel_rfl)
theorem args_ga (a b : Value) : argsOk "object.__getattribute__" ⟨[a, b], []⟩ := by unfold argsOk; kernel_rfl
theorem lk_fn_getattr : typeLookup (.type "function") "__getattr__" = pure none := by rw [typeLookup_type, builtinLookup_eq_fast]; kernel_rfl
theorem sub_fn_static : isSubtype (.type "function") (.type "staticmethod") = pure false := by rw [isSubtype_type]; kernel_rfl
theorem sub_fn_classm : isSubtype (.type "function") (.type "classmethod") = pure false := by rw [isSubtype_type]; kernel_rfl
section
variable {prog : Program} {w : World} {A : Around} {E : Value → Shared → Prop} {h : Heap} {g : Array GenState} {d : Drawn} {t : Nat} {os : OsState} {x dx : Addr} {name : Str} {v : Value} {mA : Str → Option Value}
theorem fn_load_entry {o : Obj} {fd : FuncData} {tk : Tok} {Q : Fin → Shared → Prop} (hx : h.get? x = some o) (hc : o.cls = .type "function") (hdat : o.data = .func fd) (hdx : o.dict = some dx) (hns : h.Ns dx mA)
    (hB : typeLookup (.type "function") name = pure none) (hv : mA name = some v) (hq : Q (.done (.ret v)) ⟨h, g, d, t, os⟩) :
    wpAny (model prog w) A (Builtin.«object.__getattribute__» ⟨[.ref x, .str name tk], []⟩) Q E ⟨h, g, d, t, os⟩ := by
  have hT : (⟨h, g, d, t, os⟩ : Shared).TypeIs (.ref x) "function" := ⟨o, hx, hc⟩
  have hT2 : (⟨h, g, d, t, os⟩ : Shared).TypeIs (.ref x) "function" := ⟨o, hx, hc⟩
  have f1 := sub_fn_static
  have f2 := sub_fn_classm
  unfold Builtin.«object.__getattribute__»
  repeat (any_goals (first | assumption | (with_reducible refine wpAny_loadPart_at hx ?_; first | rw [hc] | rw [hdx] | rw [hdat]; dsimp only) | (with_reducible refine wpAny_nsGet hns ?_; rw [hv]) | wp_step))
  rw [hdx]
  repeat (any_goals (first | assumption | (with_reducible refine wpAny_nsGet hns ?_; rw [hv]) | wp_step))
theorem fn_load {o : Obj} {fd : FuncData} {expr : Bool} {Q : Value → Shared → Prop} (hx : h.get? x = some o) (hc : o.cls = .type "function") (hdat : o.data = .func fd) (hdx : o.dict = some dx) (hns : h.Ns dx mA)
    (hB : typeLookup (.type "function") name = pure none) (hv : mA name = some v) (hh : handedOut v = pure v) (hq : Q v ⟨h, g, d, t + 1, os⟩) : wpAny (model prog w) A (getAttr (.ref x) name expr) Q E ⟨h, g, d, t, os⟩ := by
  have hT : (⟨h, g, d, t, os⟩ : Shared).TypeIs (.ref x) "function" := ⟨o, hx, hc⟩
  have hT1 : (⟨h, g, d, t + 1, os⟩ : Shared).TypeIs (.ref x) "function" := ⟨o, hx, hc⟩
  have f1 := slot_fn_ga.lookup
  have f2 := lk_fn_getattr
  have f4 := slot_fn_ga.bind (.ref x)
  cases expr
  all_goals (
    repeat (any_goals (first | assumption | (rw [if_neg (show ¬ (true && onTheHeap (Value.builtin "object.__getattribute__")) = true by decide)]) | wp_step))
    refine codeAny_call_builtin slot_fn_ga.plain entry_ga (slot_fn_ga.check _ _ _ _ _ _ _ _ hT1 (args_ga _ _) (fn_load_entry hx hc hdat hdx hns hB hv ?_))
    repeat (any_goals (first | assumption | wp_step)))
theorem fn_method {o : Obj} {fd : FuncData} {pl : Sem Bool} {Q : Value × List Value → Shared → Prop} (hx : h.get? x = some o) (hc : o.cls = .type "function") (hdat : o.data = .func fd) (hdx : o.dict = some dx) (hns : h.Ns dx mA)
    (hB : typeLookup (.type "function") name = pure none) (hv : mA name = some v) (hh : handedOut v = pure v) (hq : Q (v, []) ⟨h, g, d, t + 1, os⟩) : wpAny (model prog w) A (getMethod (.ref x) name pl) Q E ⟨h, g, d, t, os⟩ := by
  have hT : ∀ t', (⟨h, g, d, t', os⟩ : Shared).TypeIs (.ref x) "function" := fun _ => ⟨o, hx, hc⟩
  unfold getMethod
  refine wpAny_bind (wpAny_specialOf (hT t) slot_fn_ga.lookup ?_)
  dsimp only
  rw [if_neg (by rw [F.canon_object_ga]; decide)]
  refine wpAny_bind (wpAny_specialOf (hT t) lk_fn_getattr ?_)
  refine wpAny_bind (wpAny_specialOf (hT t) hB ?_)
  dsimp only
  exact wpAny_bind (wpAny_mono (fn_load hx hc hdat hdx hns hB hv hh hq) (fun _ _ z => wpAny_pure z) fun _ _ z => z)
end
end Mine
end
section
open PySem PySem.Spec PySem.Calls PyProof.Rows PySem.W PySem.SeqAt Builtin Builtin.ObjectAttr
namespace Mine
section
variable {prog : Program} {w : World} {A : Around} {E : Value → Shared → Prop} {h : Heap} {g : Array GenState} {d : Drawn} {t : Nat} {os : OsState}
variable {nm q : Str} {C N x : Addr} {bs : List Value} {sn : List Str} {sub : List Value} {ab : Bool} {col : Option Bool} {dd : Option Addr} {k0 k1 k2 k3 k5 : Option Value} {newId : String}
  {mN mA : Str → Option Value} {name : Str} {v : Value}
theorem lk_fn_set : typeLookup (.type "function") "__set__" = pure none := by rw [typeLookup_type, builtinLookup_eq_fast]; kernel_rfl
theorem lk_fn_delete : typeLookup (.type "function") "__delete__" = pure none := by rw [typeLookup_type, builtinLookup_eq_fast]; kernel_rfl
theorem bound_entry {tk : Tok} {f : Addr} {of : Obj} {y : Option Value} {Q : Fin → Shared → Prop}
    (hC : h.get? C = some (excClassObj nm q C N bs [.type "object"] true sn sub ab col dd k0 k1 k2 k3 k5 newId)) (hn : h.Ns N mN) (hnh : mN "__getattr__" = none)
    (hf : mN name = some (.ref f)) (hfo : h.get? f = some of) (hfc : of.cls = .type "function") (hnc : (["__module__", "__name__", "__qualname__", "__doc__", "__annotations__"] : List Str).contains name = false)
    (hB : typeLookup (.type "object") name = pure y) (I : h.Inst x C mA) (hsh : mA name = none) (hq : Q (.done (.ret (.ref h.objs.size))) ⟨h.push (methodObj (.ref f) (.ref x)), g, d, t, os⟩) :
    wpAny (model prog w) A (Builtin.«proto.getattr_hooked» ⟨[.ref x, .str name tk], []⟩) Q E ⟨h, g, d, t, os⟩ := by
  obtain ⟨o, hx, hc, hno, hd⟩ := I
  have hlk := F.ks_slot_function_get.lookup
  have hTf : (⟨h, g, d, t, os⟩ : Shared).TypeIs (.ref f) "function" := ⟨_, hfo, hfc⟩
  unfold Builtin.«proto.getattr_hooked»
  repeat (first | (with_reducible refine wpAny_loadPart_at hx ?_; rw [hc]) | (with_reducible refine wpAny_typeLookup_exc hC hn F.mro_object hB ?_; rw [hf]) | (with_reducible refine wpAny_typeOf (T := "function") hTf ?_) | rw [lk_fn_set] | rw [lk_fn_delete] | wp_step)
  split
  · rename_i c hcd
    exact absurd hcd (hno c)
  unfold instanceDict
  repeat (first | (with_reducible refine wpAny_loadPart_at hx ?_; rw [hc]) | with_reducible refine wpAny_loadPart_at hC ?_ | wp_step)
  rcases hd with ⟨hdn, _⟩ | ⟨dx, hdx, _, hns⟩
  · rw [hdn]
    repeat (first | wp_step)
    rw [if_neg (by rw [hnc]; decide)]
    repeat (first | (with_reducible refine wpAny_typeLookup_exc hC hn F.mro_object F.lk_object_getattr ?_; rw [hnh]) | wp_step)
    refine fn_get (K := [(f, of)]) (fun a o e => ?_) (by unfold typeIn; simp [List.lookup, hfc]) ?_
    · simp only [List.lookup] at e
      split at e
      · rename_i hb; cases e; rw [beq_iff_eq.mp hb]; exact hfo
      · cases e
    · exact wpAny_pure hq
  · rw [hdx]
    repeat (first | (with_reducible refine wpAny_nsGet hns.ns ?_; rw [hsh]) | wp_step)
    rw [if_neg (by rw [hnc]; decide)]
    repeat (first | (with_reducible refine wpAny_typeLookup_exc hC hn F.mro_object F.lk_object_getattr ?_; rw [hnh]) | wp_step)
    refine fn_get (K := [(f, of)]) (fun a o e => ?_) (by unfold typeIn; simp [List.lookup, hfc]) ?_
    · simp only [List.lookup] at e
      split at e
      · rename_i hb; cases e; rw [beq_iff_eq.mp hb]; exact hfo
      · cases e
    · exact wpAny_pure hq
theorem load_bound {expr : Bool} {f : Addr} {of : Obj} {y : Option Value} {Q : Value → Shared → Prop}
    (hC : h.get? C = some (excClassObj nm q C N bs [.type "object"] true sn sub ab col dd k0 k1 k2 k3 k5 newId)) (hn : h.Ns N mN) (hng : mN "__getattribute__" = none) (hnh : mN "__getattr__" = none)
    (hf : mN name = some (.ref f)) (hfo : h.get? f = some of) (hfc : of.cls = .type "function") (hnc : (["__module__", "__name__", "__qualname__", "__doc__", "__annotations__"] : List Str).contains name = false)
    (hB : typeLookup (.type "object") name = pure y) (I : h.Inst x C mA) (hsh : mA name = none) (hq : Q (.ref h.objs.size) ⟨h.push (methodObj (.ref f) (.ref x)), g, d, t + 1, os⟩) :
    wpAny (model prog w) A (getAttr (.ref x) name expr) Q E ⟨h, g, d, t, os⟩ := by
  obtain ⟨o, hx, hc, _⟩ := id I
  unfold getAttr getAttrBy
  repeat (first | (with_reducible refine wpAny_loadPart_at hx ?_; rw [hc]) | (with_reducible refine wpAny_typeLookup_exc hC hn F.mro_object F.lk_object_ga ?_; rw [hng]) | wp_step)
  show wpAny _ _ ((runValue (.builtin "proto.getattr_hooked" ⟨[.ref x, .str name t], []⟩)).onRaise (noteIf true (.ref x) (.str name t))) _ _ _
  refine wpAny_onRaise (wpAny_runValue (codeAny_builtin F.plainObj_entry_getattr_hooked (bound_entry hC hn hnh hf hfo hfc hnc hB I hsh ?_)))
  show wpAny _ _ (handedOut (.ref h.objs.size)) _ _ _
  rw [handedOut_of rfl]
  exact wpAny_pure hq
end
end Mine
end
section
open PySem PySem.Spec PySem.Calls PyProof.Rows PySem.W PySem.SeqAt Builtin Builtin.ObjectAttr
namespace Mine
theorem slot_ci_next : Slot "callable_iterator" "__next__" "callable_iterator.__next__" :=
  .of (owner := "callable_iterator") (n := "__next__") (by rw [typeLookup_type, builtinLookup_eq_fast]; kernel_rfl) (by decide +kernel) (by decide +kernel) (by decide +kernel)
    (by first | exact .inl (by decide +kernel) | exact .inr (by decide +kernel)) (by rw [isSubtype_type]; kernel_rfl)
theorem slot_ci_iter : Slot "callable_iterator" "__iter__" "callable_iterator.__iter__" :=
  .of (owner := "callable_iterator") (n := "__iter__") (by rw [typeLookup_type, builtinLookup_eq_fast]; kernel_rfl) (by decide +kernel) (by decide +kernel) (by decide +kernel)
    (by first | exact .inl (by decide +kernel) | exact .inr (by decide +kernel)) (by rw [isSubtype_type]; kernel_rfl)
theorem entry_ci_next : entryFor table "callable_iterator.__next__" = some Builtin.«callable_iterator.__next__» := entryFor_of_tree (by kernel_rfl)
theorem entry_ci_iter : entryFor table "callable_iterator.__iter__" = some Builtin.«dict_keyiterator.__iter__» :=
  entryFor_alias (id' := "dict_keyiterator.__iter__") (by kernel_rfl) rfl (by decide +kernel) (by kernel_rfl)
theorem args_ci_next (a : Value) : argsOk "callable_iterator.__next__" ⟨[a], []⟩ := by unfold argsOk; kernel_rfl
theorem args_ci_iter (a : Value) : argsOk "callable_iterator.__iter__" ⟨[a], []⟩ := by unfold argsOk; kernel_rfl
theorem lk_method_call : typeLookup (.type "method") "__call__" = pure (some (.builtin "method.__call__")) := by rw [typeLookup_type, builtinLookup_eq_fast]; kernel_rfl
theorem kind_iter : builtinKind "iter" = none := by decide +kernel
theorem plain_iter : plainId "iter" = true := by decide +kernel
theorem entry_iter : entryFor table "iter" = some Builtin.«iter» := entryFor_of_tree (by kernel_rfl)
theorem args_iter2 (a b : Value) : argsOk "iter" ⟨[a, b], []⟩ := by unfold argsOk; kernel_rfl
noncomputable def itObj (a b : Value) (e : Bool) : Obj := { cls := .type "callable_iterator", data := .fields #[a, b, .bool e] }
noncomputable def itIs (b : Addr) (o : Obj) : Prop := ∃ t, o = itObj (.ref b) (.str "" t) false
noncomputable def itEnd (o : Obj) : Prop := o = itObj .none .none true
section
variable {X : Cx} {σ σ' : St} {Z Z' : ZM} {s s' : Shared} {P : V → St → Prop}
/-- an attribute that is a function of the class: a new method object -/
theorem EV.attrB {value : PySem.Expr} {attr : Str} {pos : Pos} (C N : Addr) (mN : Str → Option Value) (f : Addr) (hc : ClsX X C N mN)
    (hg : mN "__getattribute__" = Option.none) (hnh : mN "__getattr__" = Option.none) (hf : mN attr = some (.ref f)) {of : Obj} (hfo : X.base.get? f = some of) (hfc : of.cls = .type "function") {y : Option Value} (hB : typeLookup (.type "object") attr = pure y)
    (hnc : (["__module__", "__name__", "__qualname__", "__doc__", "__annotations__"] : List Str).contains attr = false)
    (h : EV X value σ fun d σ1 => ∃ x dx l, d = .ref x ∧ (x, Cell.raw (· = instObj C dx)) ∈ σ1.mem ∧ (dx, Cell.ns l) ∈ σ1.mem ∧ attr ∉ l.map (·.1) ∧ ∀ b, P (.ref b) { σ1 with mem := σ1.mem ++ [(b, .raw (· = methodObj (.ref f) (.ref x)))] })
    (he : ∀ env, eval (.Attribute value attr pos) env = (do
      let o ← eval value env
      standAt pos.atName
      let r ← holding [o] (getAttr o attr true)
      letTemporaryGo value o r
      pure r) := by intro _; with_unfolding_all rfl) : EV X (.Attribute value attr pos) σ P := fun Z s r =>
  Attribute_any_ (J.use h r fun Z1 s1 σ1 d v x1 r1 h1 => by
    obtain ⟨x, dx, l, rfl, hx, hd, hm, hp⟩ := h1
    cases r1
    obtain ⟨m, hI, ho, hn, hl, hout⟩ := x1.rel.inst hx hd (mem_key_ne x1.rel hx hd)
    obtain ⟨⟨nm, q, bs, sn, sub, col, dd, k0, k1, k2, k3, k5, hC⟩, hN⟩ := hc.here x1.rel
    have hfo' := x1.rel.base hfo (by rw [hfc]; intro e; cases e)
    have s3 := x1.rel.sz3
    obtain ⟨hh1, g1, d1, t1, os1⟩ := s1
    refine load_bound hC hN hg hnh hf hfo' hfc hnc hB hI (hout _ hm) ?_
    refine hereV (x1.trans (Ext.addMs x1.rel (new := [(hh1.objs.size, .raw (· = methodObj (.ref f) (.ref x)))]) (tk := t1 + 1) (fun b o e => Heap.get?_push_of_some _ e) (by simp [keys]) fun p hp' => ?_)) vr_ref (hp _)
    simp only [List.mem_cons, List.not_mem_nil, or_false] at hp'
    subst hp'
    exact ⟨Heap.get?_none_of_le (Nat.le_refl _), ⟨_, Heap.get?_push_size _ rfl, rfl⟩, s3⟩) (he _)
/-- iter(method, '') -/
theorem CALL.iter2 {b : Addr} {m : Value} {x : Value} (hm : (b, Cell.raw (· = methodObj m x)) ∈ σ.mem) (h : ∀ I, P (.ref I) { σ with mem := σ.mem ++ [(I, .raw (itIs b))] }) : CALL X (.builtin "iter") [.ref b, .str ""] σ P := fun Z s vs r hv => by
  obtain ⟨v1, v2, rfl, e1, t, e2⟩ := vs2 hv
  cases e1
  subst e2
  obtain ⟨o, ho, rfl⟩ := r.mem _ hm
  have s3 := r.sz3
  have fin : Post X (RV X) σ Z s P (.ref s.heap.objs.size) { s with heap := s.heap.push (itObj (.ref b) (.str "" t) false) } := by
    refine hereV (Ext.addMs r (new := [(s.heap.objs.size, .raw (itIs b))]) (tk := s.toks) (fun b o e => Heap.get?_push_of_some _ e) (by simp [keys]) fun p hp' => ?_) vr_ref (h _)
    simp only [List.mem_cons, List.not_mem_nil, or_false] at hp'
    subst hp'
    exact ⟨Heap.get?_none_of_le (Nat.le_refl _), ⟨_, Heap.get?_push_size _ rfl, t, rfl⟩, s3⟩
  obtain ⟨hh, g, d, tk, os⟩ := s
  have hT : (⟨hh, g, d, tk, os⟩ : Shared).TypeIs (.ref b) "method" := ⟨_, ho, rfl⟩
  have f1 := lk_method_call
  refine Calls.call_function_entry kind_iter plain_iter entry_iter (args_iter2 _ _) ?_
  unfold Builtin.«iter»
  refine wpAny_bind (wpAny_of_eq (a := [Value.ref b, Value.str (Str.ofString "") t]) (by first | rfl | kernel_rfl) ?_)
  dsimp only
  refine wpAny_bind (wpAny_specialOf hT f1 ?_)
  rw [if_neg (by decide)]
  repeat (any_goals (first | assumption | wp_step))
  exact ⟨_, rfl, fin⟩

/-! the next one -/
noncomputable def ROpt (X : Cx) (Z : ZM) : Option V → Option Value → Prop
  | none, none => True
  | some d, some v => VRel X.prog X.w Z d v
  | _, _ => False
noncomputable def NEXT (X : Cx) (I : Addr) (σ : St) (P : Option V → St → Prop) : Prop := J X (ROpt X) (pyNext (.ref I)) σ P
theorem wpAny_callBorrowed {M : Model} {A : Around} {E : Value → Shared → Prop} {s : Shared} {f : Value} {pos : List Value} {Q : Value → Shared → Prop}
    (hc : codeAny M A (.call f ⟨pos, []⟩) (fun r s' => match r with | .ok (.ret v) => Q v s' | .ok _ => False | .error e => E e s') s) : wpAny M A (callBorrowed f pos) Q E s :=
  fun Γ p hΓ => by
    have e : callBorrowed f pos = (call f pos []).keep [borrowed] := by
      unfold callBorrowed call runValue run
      show Sem.call _ _ _ _ _ = Sem.call _ _ _ _ _
      congr 1
      funext x
      rcases x with e | (_ | _ | _ | _) <;> rfl
    rw [e, Sem.wp_keep]
    exact wpAny_call hc Γ p hΓ
/-- what is done at the end -/
theorem stop_now {α : Type} {prog : Program} {w : World} {A B : Around} {E : Value → Shared → Prop} {s : Shared} {Q : Option Value → Shared → Prop} (hh : A.handled = none)
    (hQ : ∀ h', (∀ b o, s.heap.get? b = some o → h'.get? b = some o) → Q none { s with heap := h' }) :
    wpAny (model prog w) A (SmallTypes.stopIteration (α := α)) (fun _ _ => False) (fun e s' => wpAny (model prog w) B (do if ← isInstance e (.type "StopIteration") then pure Option.none else throw e) Q E s') s := by
  unfold SmallTypes.stopIteration
  refine wpAny_bind ?_
  simp only [newExc, newTuple]
  refine wpAny_bind (wpAny_newObj_type ?_ (by size_fits))
  refine wpAny_bind (m := firstArgMember _ _) (wpAny_of_eq (a := Value.none) (by first | rfl | (simp only [firstArgMember]; rfl)) ?_)
  refine wpAny_newObj_type ?_ (by size_fits)
  simp only [raiseNew]
  refine wpAny_bind (wpAny_handled ?_)
  rw [hh]
  refine wpAny_bind (wpAny_pure (wpAny_throw ?_))
  refine wpAny_bind (wpAny_isInstance (T := "StopIteration") (b := true) ⟨_, Heap.get?_push_size _ rfl, rfl⟩ isSubtype_stop ?_)
  exact wpAny_pure (hQ _ fun b o e => Heap.get?_push_of_some _ (Heap.get?_push_of_some _ e))
end
end Mine
end
section
open PySem PySem.Spec PySem.Calls PyProof.Rows PySem.W PySem.SeqAt Builtin Builtin.ObjectAttr
namespace Mine
theorem wpAny_borrows {M : Model} {A : Around} {E : Value → Shared → Prop} {s : Shared} {Q : Bool → Shared → Prop} {b f : Addr} {x : Value} {of : Obj} {fd : FuncData} (hb : s.heap.get? b = some (methodObj (.ref f) x)) (hf : s.heap.get? f = some of) (hd : of.data = .func fd) (h : Q true s) :
    wpAny M A (borrowsExactly (.ref b)) Q E s := by
  unfold borrowsExactly
  refine wpAny_bind (wpAny_load hb ?_)
  refine wpAny_bind (wpAny_load hf ?_)
  rw [hd]
  exact wpAny_pure h
section
variable {X : Cx} {σ σ' : St} {Z Z' : ZM} {s s' : Shared} {P : Option V → St → Prop}
theorem NEXT.call {I b f x : Addr} {k : Nat} {of : Obj} {fd : FuncData} (hA : Rm X.A (k + 1)) (hI : (I, Cell.raw (itIs b)) ∈ σ.mem) (hb : (b, Cell.raw (· = methodObj (.ref f) (.ref x))) ∈ σ.mem) (hfo : X.base.get? f = some of) (hfd : of.data = .func fd) (hfc : of.cls ≠ .none)
    (h : ∀ A', Rm A' k → CALLR (X.at A') (.ref f) [.ref x] σ fun d σ' => ∃ ch, d = .str ch ∧ (I, Cell.raw (itIs b)) ∈ σ'.mem ∧ (b, Cell.raw (· = methodObj (.ref f) (.ref x))) ∈ σ'.mem ∧
      (ch ≠ "" → P (some (.str ch)) σ') ∧ (ch = "" → ∃ mem', UpM I (.raw itEnd) σ'.mem mem' ∧ P Option.none { σ' with mem := mem' })) : NEXT X I σ P := fun Z s r => by
  obtain ⟨oI, hoI, t, rfl⟩ := r.mem _ hI
  obtain ⟨ob, hob, rfl⟩ := r.mem _ hb
  have hf := r.base hfo hfc
  have hT : s.TypeIs (.ref I) "callable_iterator" := ⟨_, hoI, rfl⟩
  have hd : (itObj (.ref b) (.str "" t) false).data = .fields #[.ref b, .str "" t, .bool false] := rfl
  unfold pyNext
  refine wpAny_bind (wpAny_attempt (wpAny_callSpecial?_slot (name := Str.ofString "__next__") hT slot_ci_next (wpAny_call_entry slot_ci_next hT entry_ci_next ?_ (args_ci_next _))))
  show wpAny _ _ (field (.ref I) 2 >>= _) _ _ _
  refine wpAny_bind (wpAny_field hoI hd (x := .bool false) rfl ?_)
  rw [if_neg (by decide)]
  show wpAny _ _ (field (.ref I) 0 >>= _) _ _ _
  refine wpAny_bind (wpAny_field hoI hd (x := .ref b) rfl ?_)
  refine wpAny_bind (wpAny_attempt ?_)
  unfold callOutOfASlot
  refine wpAny_bind (wpAny_borrows hob hf hfd ?_)
  rw [if_pos rfl]
  refine wpAny_callBorrowed (method_call hob ?_)
  refine h _ hA.in1 Z s [.ref x] _ r.at ⟨_, [], rfl, vr_ref, rfl⟩ fun v s1 ⟨Z1, σ1, d, y, hr, hq⟩ => ?_
  obtain ⟨ch, rfl, hI1, hb1, hne, heq⟩ := hq
  obtain ⟨t2, rfl⟩ := hr
  have x1 := y.unat
  obtain ⟨oI1, hoI1, t1, rfl⟩ := x1.rel.mem _ hI1
  obtain ⟨ob1, hob1, rfl⟩ := x1.rel.mem _ hb1
  have hf1 := x1.rel.base hfo hfc
  have hd1 : (itObj (.ref b) (.str "" t1) false).data = .fields #[.ref b, .str "" t1, .bool false] := rfl
  show wpAny _ _ (field (.ref I) 2 >>= _) _ _ _
  refine wpAny_bind (wpAny_field hoI1 hd1 (x := .bool false) rfl ?_)
  rw [if_neg (by decide)]
  show wpAny _ _ (field (.ref I) 1 >>= _) _ _ _
  refine wpAny_bind (wpAny_field hoI1 hd1 (x := .str "" t1) rfl ?_)
  refine wpAny_bind (wpAny_holding (wpAny_eqBool_str ?_))
  by_cases hch : ch = ""
  · subst hch
    obtain ⟨mem', hu, hp⟩ := heq rfl
    rw [if_neg (by simp)]
    refine wpAny_bind (wpAny_rule ?_)
    show wpAny _ _ ((do
      slotLetsGo "callable_iterator.__next__" (← field (.ref I) 0) _
      setField (.ref I) 0 .none; setField (.ref I) 1 .none; setField (.ref I) 2 (.bool true)) >>= _) _ _ _
    refine wpAny_bind (wpAny_bind (wpAny_field hoI1 hd1 (x := .ref b) rfl ?_))
    refine wpAny_bind ?_
    unfold slotLetsGo
    refine wpAny_bind (wpAny_borrows hob1 hf1 hfd ?_)
    rw [if_pos rfl]
    refine wpAny_pure ?_
    refine wpAny_bind (wpAny_setField hoI1 rfl (by simp) ?_)
    have g1 := Heap.get?_update_self (Obj.mapFields (·.setIfInBounds 0 .none)) hoI1 rfl
    refine wpAny_bind (wpAny_setField g1 rfl (by simp) ?_)
    have g2 := Heap.get?_update_self (Obj.mapFields (·.setIfInBounds 1 .none)) g1 rfl
    refine wpAny_setField g2 rfl (by simp) ?_
    have g3 := Heap.get?_update_self (Obj.mapFields (·.setIfInBounds 2 (.bool true))) g2 rfl
    refine wpAny_mono (stop_now (A := X.A.in1) (B := X.A) (Q := fun o s' => Post X (ROpt X) σ Z s P o s') (by show X.A.handled = _; exact hA.handled) fun h' hk => ?_) (fun _ _ z => z.elim) fun _ _ z => z
    refine here (b := (none : Option V)) (x1.trans (x1.rel.setMemK (tk := s1.toks) hu (fun b o hbI e => ?_) ⟨_, hk _ _ g3, rfl⟩)) trivial hp
    refine hk _ _ ?_
    rw [Heap.get?_update_other _ _ (Ne.symm hbI), Heap.get?_update_other _ _ (Ne.symm hbI), Heap.get?_update_other _ _ (Ne.symm hbI)]; exact e
  · rw [if_pos (by simp [Ne.symm hch])]
    refine wpAny_pure ⟨_, rfl, wpAny_pure (here (b := some (V.str ch)) x1 (show VRel _ _ _ _ _ from vr_str) (hne hch))⟩
theorem NEXT.ended {I : Addr} (hA : X.A.handled = Option.none) (hI : (I, Cell.raw itEnd) ∈ σ.mem) (h : P Option.none σ) : NEXT X I σ P := fun Z s r => by
  obtain ⟨oI, hoI, rfl⟩ := r.mem _ hI
  have hT : s.TypeIs (.ref I) "callable_iterator" := ⟨_, hoI, rfl⟩
  have hd : (itObj .none .none true).data = .fields #[.none, .none, .bool true] := rfl
  unfold pyNext
  refine wpAny_bind (wpAny_attempt (wpAny_callSpecial?_slot (name := Str.ofString "__next__") hT slot_ci_next (wpAny_call_entry slot_ci_next hT entry_ci_next ?_ (args_ci_next _))))
  show wpAny _ _ (field (.ref I) 2 >>= _) _ _ _
  refine wpAny_bind (wpAny_field hoI hd (x := .bool true) rfl ?_)
  rw [if_pos (by decide)]
  refine wpAny_bind (wpAny_rule ?_)
  refine wpAny_bind (wpAny_mono (stop_now (A := X.A.in1) (B := X.A) (Q := fun o s' => Post X (ROpt X) σ Z s P o s') (by show X.A.handled = _; exact hA) fun h' hk => ?_) (fun _ _ z => False.elim z) fun _ _ z => z)
  exact here (b := (none : Option V)) (Ext.keepAll (tk := s.toks) r hk) trivial h
end
end Mine
end
section
open PySem PySem.Spec PySem.Calls PyProof.Rows PySem.W PySem.SeqAt Builtin Builtin.ObjectAttr
namespace Mine
/-- it is a callable_iterator -/
noncomputable def ItCell (I : Addr) (σ : St) : Prop := (∃ b, (I, Cell.raw (itIs b)) ∈ σ.mem) ∨ (I, Cell.raw itEnd) ∈ σ.mem
section
variable {X : Cx} {target : PySem.Expr} {σ σ' : St} {Z Z' : ZM} {s s' : Shared} {P : V → St → Prop}
theorem ItCell.obj {I : Addr} (h : ItCell I σ) (r : Rel X σ Z s) : ∃ a b e, s.heap.get? I = some (itObj a b e) := by
  rcases h with ⟨b, h⟩ | h
  · obtain ⟨o, ho, t, rfl⟩ := r.mem _ h; exact ⟨_, _, _, ho⟩
  · obtain ⟨o, ho, rfl⟩ := r.mem _ h; exact ⟨_, _, _, ho⟩
/-- what an iterator of the ledger hands over to a loop -/
inductive FORI (X : Cx) (target : PySem.Expr) (body : List Stmt) (Q : Fl → St → Prop) (d : V) (σ1 : St) : Prop
  | mk (I : Addr) (hd : d = .ref I) (hI : ItCell I σ1) (Inv : Nat → St → Prop) (inv0 : ∃ n, Inv n σ1)
    (turn : ∀ n σ2, Inv n σ2 → NEXT X I σ2 fun od σ3 => ItCell I σ3 ∧ match od with
        | Option.none => Q .next σ3
        | some d => AS X target d σ3 fun σ4 => EXK X body σ4 (fun σ5 => ∃ m, m < n ∧ Inv m σ5) Q)
inductive FIJ (X : Cx) (σ1 : St) (Z1 : ZM) (s1 : Shared) (Inv : Nat → St → Prop) (n : Nat) (s' : Shared) : Prop
  | mk (σ' : St) (Z' : ZM) (x : Ext X σ1 Z1 s1 σ' Z' s') (inv : Inv n σ')
/-- for target in an iterator of the ledger -/
theorem ES.forI {iter body pos} {Q : Fl → St → Prop} 
    (h : EV X iter σ (FORI X target body Q))
    (hs : ∀ env x, foldedSetIterable iter env x = pure x := by intro _ _; rfl) : ES X (.For target iter body [] pos) σ Q := fun Z s r => by
  refine wpAny_For (J.use h r fun Z1 s1 σ1 d v x1 r1 h1 => ?_) (hs _)
  obtain ⟨I, rfl, hI, Inv, ⟨n0, inv0⟩, turn⟩ := h1
  cases r1
  obtain ⟨a, b, e, hob⟩ := hI.obj x1.rel
  have hT : s1.TypeIs (.ref I) "callable_iterator" := ⟨_, hob, rfl⟩
  refine wpAny_pyIter_slot hT slot_ci_iter (wpAny_call_entry slot_ci_iter hT entry_ci_iter ?_ (args_ci_iter _))
  show wpAny _ _ (PySem.ret (.ref I)) _ _ _
  refine wpAny_pure ⟨_, rfl, "callable_iterator", _, hT, slot_ci_next.lookup, ?_⟩
  refine forLoopN (FIJ X σ1 Z1 s1 Inv) (fun n s' hj => ?_) n0 ⟨σ1, Z1, Ext.refl x1.rel, inv0⟩
  obtain ⟨σ', Z', x, inv⟩ := hj
  refine wpAny_mono (turn n σ' inv Z' s' x.rel) (fun ov s2 q => ?_) fun _ _ h => h.elim
  obtain ⟨Z2, σ2, od, x2, hr, hI2, hq⟩ := q
  cases od with
  | none =>
    cases ov with
    | none => exact here (x1.trans (x.trans x2)) rfl_next hq
    | some v => exact hr.elim
  | some d =>
    cases ov with
    | none => exact hr.elim
    | some v =>
      obtain ⟨a, b, e, hob2⟩ := hI2.obj x2.rel
      refine go_other hob2 (fun n e => by cases e; decide) ?_
      refine wpAny_mono (hq Z2 _ v x2.rel hr) (fun _ s4 q => ?_) fun _ _ h => h.elim
      obtain ⟨Z4, σ4, _, x4, _, h4⟩ := q
      refine wpAny_mono (h4.use Z4 s4 x4.rel) (fun f s5 q => ?_) fun _ _ h => h.elim
      obtain ⟨Z5, σ5, f', x5, hf, h5⟩ := q
      have xx := ((x.trans x2).trans x4).trans x5
      exact Post.flow (Y := X) (K := Q) (I := fun σ5 => ∃ m, m < n ∧ Inv m σ5) (fun hf h => here (x1.trans xx) hf h) hf (fun h => by obtain ⟨m, hm, hi⟩ := h; exact ⟨m, hm, σ5, Z5, xx, hi⟩) h5

/-- a call of an attribute of a function object -/
theorem EV.methF {o : PySem.Expr} {name : Str} {apos pos : Pos} {args : List PySem.Expr} (hB : typeLookup (.type "function") name = pure Option.none)
    (h : EV X o σ fun d σ1 => ∃ x ob fd dx R, d = .ref x ∧ (x, Cell.raw (· = ob)) ∈ σ1.mem ∧ ob.cls = .type "function" ∧ ob.data = .func fd ∧ ob.dict = some dx ∧ (dx, Cell.ns [(name, .ref R)]) ∈ σ1.mem ∧ 
      EVs X pos args σ1 fun ds σ2 => Keep X σ2 (.ref R) ∧ CALL X (.ref R) ds σ2 P)
    (hbase : ∀ env, attributeBase o name env (eval o env) = eval o env := by intro _; rfl)
    (hfew : ∀ env, ((backTo pos (starEach args env)).all (fun x => !x.1) && (backToKw pos (keywordEach [] env)).all (fun x => x.1.isSome)
      && decide (args.length + ([] : List Keyword).length + (if ([] : List Keyword).isEmpty then 0 else 1) < 30)) = true := by intro _; rfl)
    (hline : (apos.endLine == pos.line) = true := by rfl) (hp : ∀ env, (starEach args env).any (·.1) = false := by intro _; rfl) : EV X (.Call (.Attribute o name apos) args [] pos) σ P := fun Z s r => by
  rw [arm_eval_Call, hbase]
  refine wpAny_bind (J.use h r fun Z1 s1 σ1 d v x1 r1 h1 => ?_)
  obtain ⟨x, ob, fd, dx, R, rfl, hx, hcl, hdat, hdic, hd, h2⟩ := h1
  cases r1
  obtain ⟨ob', hob, rfl⟩ := x1.rel.mem _ hx
  obtain ⟨m, hns, hl, _⟩ := x1.rel.mem _ hd
  obtain ⟨v, hv, hvr⟩ := hl _ _ (List.mem_singleton.mpr rfl)
  cases hvr
  have hcc : ∀ tk, wpAny (model X.prog X.w) X.A (callWith pos (.ref R) [] (backTo pos (starEach args X.env)) []) (Post X (RV X) σ Z s P) Nope { s1 with toks := tk } := fun tk => by
    refine callWith_gen (backTo_plain (hp _)) (J.use h2 x1.rel.toks fun Z2 s2 σ2 ds vs x2 r2 h3 => ?_)
    refine ⟨fun Q hQ => h3.1 Z2 s2 Q x2.rel hQ, ?_⟩
    have x12 : Ext X σ Z s σ2 Z2 s2 := (x1.toks).trans x2
    exact wpAny_mono (h3.2 Z2 s2 vs x2.rel r2) (fun _ _ q => q.lift x12) fun _ _ h => h
  refine wpAny_bind (wpAny_standAt ?_)
  have hform : methodCallForm (args.length + ([] : List Keyword).length) (backTo pos (starEach args X.env)) (backToKw pos (keywordEach [] X.env)) = true := hfew _
  have hpos : methodCallPos true o X.env apos pos = pure pos := by unfold methodCallPos; simp [hline]
  obtain ⟨hh1, g1, d1, t1, os1⟩ := s1
  unfold methodCall
  rw [hform]
  refine wpAny_bind (wpAny_holding (fn_method hob hcl hdat hdic hns.ns hB hv (handedOut_of rfl) ?_))
  exact wpAny_bind (wpAny_of_eq hpos (hcc _))
end
end Mine
end
section
open PySem PySem.Spec PySem.Calls PyProof.Rows PySem.W PySem.SeqAt Builtin Builtin.ObjectAttr
namespace Mine
noncomputable def lamEnv (fd : FuncData) (L a : Addr) : Env := newEnv fd.scope L fd.globals fd.closure (fd.qualname ++ ".<locals>.") (some a) fd.code none fd.builtins
noncomputable def Cx.lam (X : Cx) (fd : FuncData) (L a : Addr) : Cx := { X with A := X.A.deeper (lamEnv fd L a), env := lamEnv fd L a, own := [] }
section
variable {X : Cx} {σ σ' : St} {Z Z' : ZM} {s s' : Shared} {P : V → St → Prop}
theorem Keep.mem {a o fd} (hm : (a, Cell.raw (· = o)) ∈ σ.mem) (hd : o.data = .func fd) : Keep X σ (.ref a) := Keep.funcZ (o := o) (fun Z s r => by obtain ⟨o', ho, rfl⟩ := r.mem _ hm; exact ho) hd
/-- a lambda of the ledger is called -/
theorem CALLR.lam {a c' : Addr} {o : Obj} {fd : FuncData} {body : PySem.Expr} {k : Nat} {ps : List Str} {ds : List V}
    (hA : Rm X.A (k + 1)) (hlim : X.base.NoLimit) (hR : (a, Cell.raw (· = o)) ∈ σ.mem) (hd : o.data = .func fd) (hbody : fd.body = .expr body) (hcode : fd.code = .ref c') (hcm : (c', Cell.raw (codeIs fd.qualname)) ∈ σ.mem)
    (hbind : ∀ vs : List Value, vs.length = ds.length → bindArgs fd ⟨vs, []⟩ = pure (ps.zip vs)) (hlen : ps.length = ds.length)
    (hnc : ∀ x ∈ fd.scope.names, x.2 ≠ .cell) (hpk : ∀ x ∈ ps, fd.scope.names.lookup x = some .local)
    (h : ∀ L, EV (X.lam fd L a) body ⟨[], [], [], σ.mem⟩ fun d σ' => P d { σ with mem := σ'.mem })
    (hco : fd.scope.isCoroutine = false := by rfl) (hgen : fd.scope.isGenerator = false := by rfl) (hk : fd.scope.kind = .function := by rfl) : CALLR X (.ref a) ds σ P := fun Z s vs R r hvs hR' => by
  obtain ⟨o', ho, rfl⟩ := r.mem _ hR
  obtain ⟨oc, hoc, cvs, ct, hcd, hcv⟩ := r.mem _ hcm
  have hvl : ps.length = vs.length := by rw [hlen, hvs.length]
  have hzn : ((ps.zip vs).map (·.1)) = ps := List.map_fst_zip (Nat.le_of_eq hvl)
  refine kla_callFunE hA.room ho hd hco hgen hbody ⟨c', oc, cvs, ct, hcode, hoc, hcd, hcv⟩ ?_
  rw [hbind vs hvs.length]
  refine wpAny_pure (wpAny_newFunctionEnv hnc (fun x hx => ?_) (fun h₁ hns hsb => ?_) hk)
  · have : x.1 ∈ ps := by rw [← hzn]; exact List.mem_map_of_mem hx
    exact hpk _ this
  · generalize hL : s.heap.objs.size = L at *
    have ltL : ∀ b o, s.heap.get? b = some o → b < L := fun b o e => hL ▸ Heap.lt_size e
    have hk₁ : ∀ b o, s.heap.get? b = some o → h₁.get? b = some o := fun b o e => (hsb.2 b (Nat.ne_of_lt (ltL _ _ e))).trans (Heap.get?_push_of_some _ e)
    have none_of : ∀ b, L ≤ b → s.heap.get? b = none := fun b hb => by
      cases e : s.heap.get? b with
      | none => rfl
      | some o' => exact absurd (ltL _ _ e) (Nat.not_lt.mpr hb)
    have fsub : ∀ b ∈ keys σ.mem, b ∈ foot X σ := fun b hb => List.mem_cons_of_mem _ (List.mem_append_right _ hb)
    have ftc : ∀ b ∈ foot (X.lam fd L a) ⟨[], [], [], σ.mem⟩, b ∈ keys σ.mem ∨ b = L := fun b hb => by
      rcases List.mem_cons.mp hb with e0 | hb
      · exact .inr e0
      · rcases List.mem_append.mp hb with hb | hb
        · cases hb
        · exact .inl hb
    have r₁ : Rel (X.lam fd L a) ⟨[], [], [], σ.mem⟩ Z { s with heap := h₁, toks := s.toks + (ps.zip vs).length } := by
      refine ⟨⟨List.nodup_nil, (fun p hp => by cases hp), (fun p hp => by cases hp), List.nodup_nil, (fun _ _ _ h => by cases h), (fun p hp => by cases hp), (fun x hx => by simp at hx), hk⟩, fun b o e => hk₁ _ _ (r.zin b o e), r.st, r.ztab, r.old.step_keeps hk₁, r.os, r.gens,
        ⟨_, hns, fun x ov hx => by cases hx⟩, (fun x ov hx => by cases hx), (fun _ _ h => by cases h), (fun c hc => by cases hc), fun p hp => (r.mem p hp).mono (fun _ _ e => e) fun o e => hk₁ _ _ e, ?_, ?_, ?_, ?_, r.g3, fun b hb => r.low b hb⟩
      · show (L :: ([] ++ keys σ.mem)).Nodup
        refine List.nodup_cons.mpr ⟨fun hm => ?_, ?_⟩
        · obtain ⟨o', ho'⟩ := r.ex _ (fsub _ (by simpa using hm)); exact Nat.lt_irrefl _ (ltL _ _ ho')
        · have nd := r.nd
          unfold foot at nd
          exact (List.nodup_append.mp (List.nodup_cons.mp nd).2).2.1
      · intro b hb
        rcases ftc b hb with hb | hb
        · exact r.zfoot b (fsub _ hb)
        · cases e : Z b with
          | none => rfl
          | some o' => have := r.zin _ _ e; rw [none_of b (Nat.le_of_eq hb.symm)] at this; cases this
      · intro b hb
        rcases ftc b hb with hb | hb
        · exact r.bfoot b (fsub _ hb)
        · cases e : X.base.get? b with
          | none => exact e
          | some o' => obtain ⟨o2, h2⟩ := r.old.there _ _ e; rw [none_of b (Nat.le_of_eq hb.symm)] at h2; cases h2
      · intro b hb
        rcases ftc b hb with hb | hb
        · obtain ⟨o', ho'⟩ := r.ex b (fsub _ hb); exact ⟨o', hk₁ _ _ ho'⟩
        · obtain ⟨o', _, _, ho', _⟩ := hns; exact ⟨o', by rw [hb]; exact ho'⟩
    have hnl : Heap.NoLimit h₁ := by
      obtain ⟨mc, hn, e⟩ := r.nolim hlim
      exact ⟨mc, hn.at' fun o e => hk₁ _ _ e, e⟩
    refine ⟨hnl, kla_codeExpr ?_⟩
    refine wpAny_mono (h L Z _ r₁) (fun f s' q => ?_) fun _ _ h => h.elim
    obtain ⟨Z', σ', f', x, hf, hP⟩ := q
    obtain ⟨x2, hS⟩ := Ext.leave (X := X) (sub := σ.mem) (rest := []) (A' := (X.lam fd L a).A) (env' := (X.lam fd L a).env) (own' := []) r (by simp) hk₁ (fun _ _ h => h) (fun a o h => .inl h) (fun b hb => by
      rcases ftc b hb with hb | hb
      · exact .inl hb
      · exact .inr (none_of b (Nat.le_of_eq hb.symm))) x
    refine hR' _ _ (here x2 (VRel.out hS hf) (by simpa using hP))
end
end Mine
end
section
open PySem PySem.Spec PySem.Calls PyProof.Rows PySem.W PySem.SeqAt Builtin Builtin.ObjectAttr
namespace Mine
section
variable {X : Cx} {σ σ' : St} {Z Z' : ZM} {s s' : Shared} {P : V → St → Prop}
noncomputable def GA (X : Cx) (attr : Str) (x : Addr) (σ : St) (P : V → St → Prop) : Prop := J X (RV X) (getAttr (.ref x) attr true) σ P
theorem GA.inst {attr : Str} (C N : Addr) (mN : Str → Option Value) (hc : ClsX X C N mN)
    (hg : mN "__getattribute__" = Option.none) (hna : mN attr = Option.none) (hB : typeLookup (.type "object") attr = pure Option.none) {x dx : Addr} {l} {d' : V}
    (hx : (x, Cell.raw (· = instObj C dx)) ∈ σ.mem) (hd : (dx, Cell.ns l) ∈ σ.mem) (hm : (attr, d') ∈ l) (hh : ∀ Z v, VRel X.prog X.w Z d' v → handedOut v = pure v) (hp : P d' σ) : GA X attr x σ P := fun Z s r => by
  obtain ⟨m, hI, ho, hn, hl, _⟩ := r.inst hx hd (mem_key_ne r hx hd)
  obtain ⟨v, hv, hvr⟩ := hl _ _ hm
  obtain ⟨⟨nm, q, bs, sn, sub, col, dd, k0, k1, k2, k3, k5, hC⟩, hN⟩ := hc.here r
  obtain ⟨hh1, g1, d1, t1, os1⟩ := s
  exact load_attr hC hN hg hna hB hI hv (hh _ _ hvr) (hereV (Ext.refl r).toks hvr hp)
theorem ES.augAttr {o value : PySem.Expr} {attr : Str} {tpos pos : Pos} {op : Operator} {Q : Fl → St → Prop}
    (h : EV X o σ fun od σ1 => ∃ x, od = .ref x ∧ GA X attr x σ1 fun old σ2 => EV X value σ2 fun d σ3 => INP X op old d σ3 fun r σ4 => SETA X attr x r σ4 (Q .next)) : ES X (.AugAssign (.Attribute o attr tpos) op value pos) σ Q := fun Z s r =>
  wpAny_AugAssign_AttributeAny (J.use h r fun Z1 s1 σ1 d1 v1 x1 r1 h1 => by
    obtain ⟨x, rfl, h2⟩ := h1
    cases r1
    refine J.use h2 x1.rel fun Z2 s2 σ2 d2 v2 x2 r2 h2 => J.use h2 x2.rel fun Z3 s3 σ3 d3 v3 x3 r3 h3 => ?_
    refine wpPost (h3 Z3 s3 v2 v3 x3.rel (r2.mono x3.le) r3) (fun Z4 s4 σ4 d4 v4 x4 r4 h4 => ?_)
    refine wpPost (h4 Z4 s4 v4 x4.rel r4) (fun Z5 s5 σ5 b _ x5 _ h5 => ?_)
    exact here ((((x1.trans x2).trans x3).trans x4).trans x5) rfl_next h5)
end
end Mine
end
section
open PySem PySem.Spec PySem.Calls PyProof.Rows PySem.W PySem.SeqAt Builtin Builtin.ObjectAttr
namespace Mine
section
variable {X : Cx} {σ σ' : St} {Z Z' : ZM} {s s' : Shared} {P : V → St → Prop}
/-- a slice that stays in the ledger -/
theorem SUB.sliceLM {l : List V} {lo hi st : Option Int} (hs : l.length ≤ sizeLine) (h0 : st ≠ some 0) (h : ∀ a, P (.ref a) { σ with mem := σ.mem ++ [(a, .list (pickV l lo hi st))] }) : SUB X (.list l) (.slc lo hi st) σ P := fun Z s v1 v2 r h1 h2 => by
  obtain ⟨a, its, n, rfl, ha, hr⟩ := h1
  obtain ⟨b, lv, uv, sv, rfl, hb, p1, p2, p3⟩ := h2
  have pl := (r.plist ha).isList
  refine ⟨⟨_, _, ⟨_, r.zin _ _ ha, rfl⟩, slot_list_getitem.lookup⟩, ?_⟩
  refine wpAny_getItem_list_slice pl ⟨_, r.zin _ _ hb, rfl, rfl⟩ p1 p2 p3 h0 ?_ (by rw [hr.length']; exact hs)
  have q : VsRel X.prog X.w Z (pickV l lo hi st) (slicePick its lo hi st).toList := by
    unfold slicePick pickV
    rw [hr.length']
    simpa using hr.pick (sliceRange (sliceBounds lo hi st l.length).1 (sliceBounds lo hi st l.length).2.1 (sliceBounds lo hi st l.length).2.2)
  have s3 := r.sz3
  refine hereV (Ext.addMs r (tk := s.toks) (new := [(s.heap.objs.size, .list (pickV l lo hi st))]) (fun b o e => Heap.get?_push_of_some _ e) (by simp [keys]) fun p hp => ?_) vr_ref (h _)
  simp only [List.mem_cons, List.not_mem_nil, or_false] at hp
  subst hp
  exact ⟨Heap.get?_none_of_le (Nat.le_refl _), ⟨slicePick its lo hi st, ⟨_, Heap.get?_push_size _ rfl⟩, q⟩, s3⟩
theorem filterMap_map_of {α β : Type} {f : α → Option β} {g : α → β} : ∀ {ks : List α}, (∀ k ∈ ks, f k = some (g k)) → ks.filterMap f = ks.map g
  | [], _ => rfl
  | k :: ks, h => by rw [List.filterMap_cons_some (h k List.mem_cons_self), List.map_cons, filterMap_map_of fun k hk => h k (List.mem_cons_of_mem _ hk)]
theorem pickV_rev {l : List V} : pickV l none none (some (-1)) = l.reverse := by
  have e : sliceRange (sliceBounds none none (some (-1)) l.length).1 (sliceBounds none none (some (-1)) l.length).2.1 (sliceBounds none none (some (-1)) l.length).2.2 = (List.range l.length).map fun k => l.length - 1 - k := by
    have e0 : sliceBounds none none (some (-1)) l.length = ((l.length : Int) - 1, -1, -1) := by simp [sliceBounds]
    rw [e0]
    unfold sliceRange
    dsimp only
    rw [if_neg (by decide)]
    have ec : (if (l.length : Int) - 1 > -1 then ((l.length : Int) - 1 - (-1) - (-1) - 1) / (- -1) else 0).toNat = l.length := by
      split
      · have : ((l.length : Int) - 1 - (-1) - (-1) - 1) / (- -1) = l.length := by
          rw [show (- -1 : Int) = 1 by decide, Int.ediv_one]; omega
        rw [this]; simp
      · rename_i h; have : l.length = 0 := by omega
        simp [this]
    rw [ec]
    refine List.map_congr_left fun k hk => ?_
    have := List.mem_range.mp hk
    omega
  unfold pickV
  rw [e]
  refine List.ext_getElem? fun i => ?_
  have hall : ((List.range l.length).map fun k => l.length - 1 - k).filterMap (l[·]?) = (List.range l.length).map fun k => l.getD (l.length - 1 - k) .none := by
    rw [List.filterMap_map]
    refine filterMap_map_of fun k hk => ?_
    have := List.mem_range.mp hk
    simp only [Function.comp, List.getD_eq_getElem?_getD]
    rw [List.getElem?_eq_getElem (by omega)]; rfl
  rw [hall]
  by_cases hi : i < l.length
  · simp [hi, List.getElem?_reverse hi]
    rw [List.getElem?_eq_getElem (by omega)]; rfl
  · simp [hi]
end
end Mine
end
section
open PySem PySem.Spec PySem.Calls PyProof.Rows PySem.W PySem.SeqAt
namespace Mine
section
variable {X : Cx} {σ σ' : St} {Z Z' : ZM} {s s' : Shared} {P : V → St → Prop}
/-- a comprehension whose element turns the ledger -/
inductive LCS (X : Cx) (elt target : PySem.Expr) (scope : Scope) (P : V → St → Prop) (d : V) (σ1 : St) : Prop
  | mk (locc celc : List (Str × Option V)) (capc : List (Str × V)) (its : List V) (F : Nat → V) (ms : Nat → List (Addr × Cell)) (hit : ITERC X target σ1 d its) (hL : ScL σ1.cel σ1.cap scope.names locc celc capc) (hsz : its.length ≤ sizeLine) (h0 : ms 0 = σ1.mem)
    (turn : ∀ C D c i di, its[i]? = some di → AS (X.comp scope C) target di ⟨locc, celc, capc, ms i ++ [(D, c)]⟩ fun σ2 => EV (X.comp scope C) elt σ2 fun d σ4 => d = F i ∧ Back ⟨locc, celc, capc, []⟩ (ms (i + 1) ++ [(D, c)]) σ4)
    (fin : P (.list ((List.range its.length).map F)) { σ1 with mem := ms its.length })
theorem EV.lcs {elt target iter : PySem.Expr} {scope : Scope} {pos : Pos} (h : EV X iter σ (LCS X elt target scope P))
    (hok : scopeOkC scope.names = true) (hfk : freeOk scope.names (σ.cel.map (·.1)) (σ.cap.map (·.1)) = true) (hk : scope.kind = .function) (hs : ∀ x, foldedSetIterable iter X.env x = pure x) :
    EV X (.ListComp elt [⟨target, iter, [], 0⟩] scope pos) σ P := by
  refine EV.lcg (J.mono h fun d σ1 h => ?_) (fun _ h => nomatch h) hok hfk hk hs
  cases h with
  | mk locc celc capc its F ms hit hL hsz h0 turn hP =>
    refine .mk _ locc celc capc hit hL ms (fun i => .list ((List.range i).map F)) h0 rfl (fun C D i di hi => ?_) ⟨rfl, hP⟩
    refine AS.mono (turn C D _ i di hi) fun σ2 h2 => TS.nil ?_
    rw [if_pos rfl, List.range_succ, List.map_append]
    refine IN.one rfl ?_ h2
    rw [List.length_map, List.length_range]
    exact Nat.le_trans (Nat.le_of_lt (List.getElem?_eq_some_iff.mp hi).1) hsz
end
end Mine
end
section
open PySem PySem.Spec PySem.Calls PyProof.Rows PySem.W PySem.SeqAt
namespace Mine
theorem pairs_conv {p p' : Program} {w w' : World} {es : List DictEntry} {kvs : List (Int × Value)} (h : Pairs (intKind p w) es kvs) : Pairs (intKind p' w') es kvs := by
  induction h with
  | nil => exact .nil
  | cons h1 h2 _ ih => exact .cons h1 h2 ih
theorem zdict_conv {p p' : Program} {w w' : World} {Z : ZM} {a : Addr} {kvs : List (Int × Value)} (h : ZDict (intKind p w) Z a kvs) : ZDict (intKind p' w') Z a kvs := by
  obtain ⟨o, es, ep, h1, h2, h3, h4, h5, h6⟩ := h
  exact ⟨o, es, ep, h1, h2, h3, h4, pairs_conv h5, h6⟩
section
variable {X : Cx} {σ σ' : St} {Z Z' : ZM} {s s' : Shared} {P : V → St → Prop}
theorem zdict_of {p : Program} {w : World} {a : Addr} {kvs : List (Int × Value)} (hz : ∀ a o, Z a = some o → s.heap.get? a = some o) (h : ZDict (intKind p w) Z a kvs) : s.heap.DictOf (intKind p w) a kvs := by
  obtain ⟨o, es, ep, h1, h⟩ := h
  exact ⟨o, es, ep, hz _ _ h1, h⟩
theorem hits_of {A : Around} {ks' : List Int} {us' : List Value} {ls' : List Int} (hr' : VsRel X.prog X.w Z (ls'.map V.int) us') : ∀ {ks ls : List Int} {us : List Value}, VsRel X.prog X.w Z (ls.map V.int) us → ks.length = ls.length → (∀ p ∈ ks.zip ls, vat ks' ls' p.1 = some p.2) → KeqHits A s (ks'.zip us') (ks.zip us) true
  | [], _, _, _, _, _ => .nil
  | k :: ks, [], us, _, h, _ => by simp at h
  | k :: ks, l :: ls, us, hr, h, hat => by
    obtain ⟨v, vs, rfl, ⟨t, rfl⟩, hr2⟩ := hr
    have h1 := hat (k, l) (by simp)
    have h2 : vat ks' (ls'.map V.int) k = some (V.int l) := by
      have : ∀ (ks : List Int) (l : List Int), vat ks (l.map V.int) k = (vat ks l k).map V.int := by
        intro ks
        induction ks with
        | nil => intro l; rfl
        | cons a ks ih =>
          intro l
          cases l with
          | nil => simp [vat_nil]
          | cons b l =>
            rw [List.map_cons, vat_cons, vat_cons, ih]
            split <;> rfl
      rw [this, h1]; rfl
    obtain ⟨u, hu, ⟨t', rfl⟩⟩ := hr'.vat h2
    have h3 := hits_of (A := A) hr' hr2 (by simpa using h) (fun p hp => hat p (by simp [hp]))
    have := KeqHits.hit (k := k) (v := .int l t) (vat_valueAt.trans hu) (EqAt.int_int (A := A) (s := s) l t l t') h3
    simpa using this
/-- a tuple of ints and one dict, beside one that says the same -/
theorem CMP.neD {k : Nat} {ns : List Int} {ks ls ks' ls' : List Int} (hA : Rm X.A k) (hl : ks.length = ls.length) (hl' : ks'.length = ls'.length) (hk : ks.length = ks'.length) (hat : ∀ p ∈ ks.zip ls, vat ks' ls' p.1 = some p.2)
    (h : P (.bool false) σ) : CMP X .NotEq (.tup (ns.map V.int ++ [.idict ks (ls.map V.int)])) (.tup (ns.map V.int ++ [.idict ks' (ls'.map V.int)])) σ P := fun Z s v u r h1 h2 => by
  have hc := hA.cl
  have hz := r.zin
  obtain ⟨a, its, m, rfl, z, hr⟩ := id h1
  obtain ⟨a', its', m', rfl, z', hr'⟩ := id h2
  have t1 : s.heap.IsTuple a its := ⟨_, hz _ _ z, rfl, _, rfl⟩
  have t2 : s.heap.IsTuple a' its' := ⟨_, hz _ _ z', rfl, _, rfl⟩
  have e1 : its.size = ns.length + 1 := by have := hr.length; simpa using this
  have e2 : its'.size = ns.length + 1 := by have := hr'.length; simpa using this
  have key : ∀ j (h1 : j < its.size) (h2 : j < its'.size), EqAt X.A.in1 s its[j] its'[j] true := fun j j1 j2 => by
    by_cases hj : j < ns.length
    · obtain ⟨v1, q1, p1⟩ := hr.get (i := j) (d := V.int ns[j]) (by rw [List.getElem?_append_left (by simpa using hj)]; simp [hj])
      obtain ⟨v2, q2, p2⟩ := hr'.get (i := j) (d := V.int ns[j]) (by rw [List.getElem?_append_left (by simpa using hj)]; simp [hj])
      obtain ⟨t, rfl⟩ := p1
      obtain ⟨t', rfl⟩ := p2
      have i1 : its[j] = .int ns[j] t := by simpa [j1] using q1
      have i2 : its'[j] = .int ns[j] t' := by simpa [j2] using q2
      rw [i1, i2]
      have := EqAt.int_int (A := X.A.in1) (s := s) ns[j] t ns[j] t'
      simpa using this
    · have hj' : j = ns.length := by omega
      subst hj'
      obtain ⟨v1, q1, p1⟩ := hr.get (i := ns.length) (d := V.idict ks (ls.map V.int)) (by rw [List.getElem?_append_right (by simp)]; simp)
      obtain ⟨v2, q2, p2⟩ := hr'.get (i := ns.length) (d := V.idict ks' (ls'.map V.int)) (by rw [List.getElem?_append_right (by simp)]; simp)
      obtain ⟨b, us, rfl, lo, zd, hlen, hrd⟩ := p1
      obtain ⟨b', us', rfl, lo', zd', hlen', hrd'⟩ := p2
      have i1 : its[ns.length] = .ref b := by simpa [j1] using q1
      have i2 : its'[ns.length] = .ref b' := by simpa [j2] using q2
      rw [i1, i2]
      by_cases hb : b = b'
      · subst hb; exact EqAt.same _
      · refine EqAt.of_refs hb fun prog w E Q hq => ?_
        refine keq_eq (no_sys lo) (no_sys lo') (zdict_of hz (zdict_conv zd)) (zdict_of hz (zdict_conv zd')) (by show X.A.units + 1 < cLine; omega) (fun _ => hits_of hrd' hrd hl hat) ?_
        have : ((ks.zip us).length == (ks'.zip us').length && true) = true := by
          rw [List.length_zip, List.length_zip, ← hlen, ← hlen']; simp [hk]
        rw [this]; exact hq
  have R := RcNeAt.tuples t1 t2 (by omega) (e := fun _ => true) key
  have : (!((List.range (min its.size its'.size)).all (fun _ => true) && its.size == its'.size)) = false := by
    rw [e1, e2]; simp
  rw [this] at R
  exact R _ _ _ _ (hereV (Ext.refl r) vr_bool h)
end
end Mine
end
section
open PySem PySem.Spec PySem.Calls PyProof.Rows PySem.W PySem.SeqAt
namespace Mine
/-- the outermost call: no caller is told of -/
theorem topcall (X : Cx) {a : Addr} {o : Obj} {fd : FuncData} {body : List Stmt} {k : Nat} {ps : List Str} {ds : List V} {loc cel : List (Str × Option V)} {sub : List (Addr × Cell)} {Z : ZM} {s : Shared} {vs : List Value} {R : Result → Shared → Prop} {Pf : Fl → St → Prop}
    (hA : Rm X.A (k + 1)) (hlim : s.heap.NoLimit) (ho : s.heap.get? a = some o) (hd : o.data = .func fd) (hbody : fd.body = .stmts body) (hclo : fd.closure = []) (hcd : s.heap.CodeRec fd.code fd.qualname)
    (hbind : bindArgs fd ⟨vs, []⟩ = pure (ps.zip vs)) (hlen : ps.length = ds.length)
    (hok : scopeOk fd.scope.names ps (loc.map (·.1)) (cel.map (·.1)) = true) (hl : LocOk ps ds loc) (hcl : LocOk ps ds cel)
    (zin : ∀ a o, Z a = some o → s.heap.get? a = some o) (st : ∀ a o, X.base.get? a = some o → ¬ Tb X a → Z a = some o) (ztab : ∀ a, Tb X a → Z a = none) (old : OldK X.base s.heap) (os : s.os = X.os) (gens : AllBare s.gens) (g3 : ∃ o, Z mainGlobals = some o)
    (mem : ∀ p ∈ sub, CellRel X.prog X.w Z s.heap p.1 p.2) (nd : (keys sub).Nodup) (ex : ∀ a ∈ keys sub, ∃ o, s.heap.get? a = some o) (zfoot : ∀ a ∈ keys sub, Z a = none) (bfoot : ∀ a ∈ keys sub, X.base.get? a = none) (low : ∀ a ∈ keys sub, 3 < a)
    (hvs : VsRel X.prog X.w Z ds vs)
    (h : EX (X.callee fd s.heap.objs.size a) body ⟨loc, cel, [], sub⟩ Pf)
    (hR : ∀ f d v s' σ' Z', Rel (X.callee fd s.heap.objs.size a) σ' Z' s' → Pf f σ' → d = retV f → VRel X.prog X.w Z' d v → R (.ok (.ret v)) s')
    (hco : fd.scope.isCoroutine = false := by rfl) (hgen : fd.scope.isGenerator = false := by rfl) (hk : fd.scope.kind = .function := by rfl) : codeAny (model X.prog X.w) X.A (.call (.ref a) ⟨vs, []⟩) R s := by
  simp only [scopeOk, Bool.and_eq_true, decide_eq_true_eq, List.all_eq_true, beq_iff_eq, Bool.or_eq_true, Bool.not_eq_true'] at hok
  obtain ⟨⟨⟨⟨⟨⟨⟨hln, hcn⟩, hpn⟩, hnn⟩, hlk⟩, hck⟩, hdb⟩, hpk⟩ := hok
  have hvl : ps.length = vs.length := by rw [hlen, hvs.length]
  have hzn : ((ps.zip vs).map (·.1)) = ps := List.map_fst_zip (Nat.le_of_eq hvl)
  refine codeAny_call_cells hA.room ho hd hlim hcd hbody hbind hclo (fun x hx => ?_) (fun s₁ y => ?_) hco hgen hk
  · have : x.1 ∈ ps := by rw [← hzn]; exact List.mem_map_of_mem hx
    rcases hpk _ this with h1 | h1
    · exact .inl h1
    · exact .inr ⟨h1, cellsFrom_kind h1⟩
  · obtain ⟨h₁, tk, rfl, hk₁⟩ := y.done
    generalize hL : s.heap.objs.size = L at *
    have ltL : ∀ b o, s.heap.get? b = some o → b < L := fun b o e => hL ▸ Heap.lt_size e
    have ab : ∀ b ∈ (callEnvC fd L a).cells.map (·.2), L < b := fun b hb => by
      obtain ⟨p, hp, rfl⟩ := List.mem_map.mp hb
      exact y.above p.1 p.2 hp
    have cnames : ((callEnvC fd L a).cells.map (·.1)).Nodup := cellsFrom_keys hnn
    have none_of : ∀ b, L ≤ b → s.heap.get? b = none := fun b hb => by
      cases e : s.heap.get? b with
      | none => rfl
      | some o' => exact absurd (ltL _ _ e) (Nat.not_lt.mpr hb)
    have ftc : ∀ b ∈ foot (X.callee fd L a) ⟨loc, cel, [], sub⟩, b ∈ keys sub ∨ L ≤ b := fun b hb => by
      rcases List.mem_cons.mp hb with e0 | hb
      · have e0 : b = L := e0
        exact .inr (Nat.le_of_eq e0.symm)
      · rcases List.mem_append.mp hb with hb | hb
        · exact .inr (Nat.le_of_lt (ab _ hb))
        · exact .inl hb
    have r₁ : Rel (X.callee fd L a) ⟨loc, cel, [], sub⟩ Z { s with heap := h₁, toks := tk } := by
      refine ⟨⟨hln, fun p hp => hlk _ (List.mem_map_of_mem hp), fun p hp => hck _ (List.mem_map_of_mem hp), hcn, fun x y' c _ _ h1 h2 => apart_inj y.apart h1 h2, (fun p hp => by cases hp), (fun x hx => hdb x (by simpa using hx)), hk⟩, fun b o e => hk₁ _ _ (zin b o e), st, ztab, old.step_keeps hk₁, os, gens,
        ⟨_, y.toInCall.ns, fun x ov hx => ?_⟩, fun x ov hx => ?_, (fun _ _ h => by cases h), (fun c hc => by obtain ⟨p, hp, rfl⟩ := List.mem_map.mp hc; exact ⟨_, y.cell p.1 p.2 (lookup_of_mem_nodup cnames hp)⟩), fun p hp => (mem p hp).mono (fun _ _ e => e) fun o e => hk₁ _ _ e, ?_, ?_, ?_, ?_, g3, low⟩
      · cases ov with
        | none => trivial
        | some d =>
          obtain ⟨v, hv, hr⟩ := zip_lookup hvs (locOk_mem hl hx)
          exact ⟨v, bindL_at (hlk _ (List.mem_map_of_mem (f := (·.1)) hx)) _ _ _ (by rw [hzn]; exact hpn) hv, hr⟩
      · have hkx : (callEnvC fd L a).kindOf x = some .cell := hck _ (List.mem_map_of_mem (f := (·.1)) hx)
        have := cellsFrom_kind (n := L + 1) hkx
        obtain ⟨c, hcc⟩ := Option.isSome_iff_exists.mp this
        refine ⟨c, _, List.mem_map.mpr ⟨(x, c), lookup_mem hcc, rfl⟩, hcc, y.cell x c hcc, ?_⟩
        cases ov with
        | none => trivial
        | some d =>
          obtain ⟨v, hv, hr⟩ := zip_lookup hvs (locOk_mem hcl hx)
          exact ⟨v, bindC_at hkx _ _ _ (by rw [hzn]; exact hpn) hv, hr⟩
      · show (L :: ((callEnvC fd L a).cells.map (·.2) ++ keys sub)).Nodup
        refine List.nodup_cons.mpr ⟨fun hm => ?_, List.nodup_append.mpr ⟨?_, nd, fun b hb c hc e => ?_⟩⟩
        · rcases List.mem_append.mp hm with hm | hm
          · exact Nat.lt_irrefl _ (ab _ hm)
          · obtain ⟨o', ho'⟩ := ex _ hm; exact Nat.lt_irrefl _ (ltL _ _ ho')
        · have := y.apart
          rw [List.Nodup, List.pairwise_map]; exact this
        · subst e
          obtain ⟨o', ho'⟩ := ex _ hc
          exact Nat.lt_irrefl _ (Nat.lt_trans (ltL _ _ ho') (ab _ hb))
      · intro b hb
        rcases ftc b hb with hb | hb
        · exact zfoot b hb
        · cases e : Z b with
          | none => rfl
          | some o' => have := zin _ _ e; rw [none_of b hb] at this; cases this
      · intro b hb
        rcases ftc b hb with hb | hb
        · exact bfoot b hb
        · cases e : X.base.get? b with
          | none => exact e
          | some o' => obtain ⟨o2, h2⟩ := old.there _ _ e; rw [none_of b hb] at h2; cases h2
      · intro b hb
        rcases List.mem_cons.mp hb with e0 | hb
        · have e0 : b = L := e0
          obtain ⟨o', _, _, ho', _⟩ := y.toInCall.ns; exact ⟨o', by rw [e0]; exact ho'⟩
        · rcases List.mem_append.mp hb with hb | hb
          · obtain ⟨p, hp, rfl⟩ := List.mem_map.mp hb
            obtain ⟨o', ho', _⟩ := y.cell p.1 p.2 (lookup_of_mem_nodup cnames hp)
            exact ⟨o', ho'⟩
          · obtain ⟨o', ho'⟩ := ex b hb; exact ⟨o', hk₁ _ _ ho'⟩
    refine wpAny_mono (h Z _ r₁) (fun f s' q => ?_) fun _ _ h => h.elim
    obtain ⟨Z', σ', f', x, hf, hP⟩ := q
    cases f' with
    | next => cases hf; exact hR _ _ _ _ _ _ x.rel hP rfl vr_none
    | brk => cases hf; exact hR _ _ _ _ _ _ x.rel hP rfl vr_none
    | cont => cases hf; exact hR _ _ _ _ _ _ x.rel hP rfl vr_none
    | ret d => obtain ⟨v, rfl, hv⟩ := hf; exact hR _ _ _ _ _ _ x.rel hP rfl hv
/-- a table that was hidden has grown -/
theorem oldK_unhide {h h' : Heap} {P c : Addr} {ps tb : Array Value} (K : OldK (h.hide P) h') (hP : P ≠ cStatics) (ht : h.TableAt c P ps) (hx : ∃ more, tb = ps ++ more) (h' : h'.get? P = some (tabObj tb)) : OldK h ‹Heap› := by
  obtain ⟨more, rfl⟩ := hx
  refine ⟨fun b o e => ?_, fun b o e => ?_⟩
  · by_cases hb : b = P
    · subst hb
      have e0 : o = tabObj ps := Option.some.inj (e.symm.trans ht.2)
      subst e0
      exact .inr (.inl ⟨ht.isCodeTable, rfl, ps, more, rfl, h'⟩)
    · rcases K.old b o ((Heap.hide_ne h hb).trans e) with x | ⟨⟨c', oc, vc, e1, e2, e3, e4⟩, hc, vs, m₁, hv, x⟩ | ⟨rfl, hc, ⟨o', es, n, ho', r⟩, z⟩
      · exact .inl x
      · exact .inr (.inl ⟨⟨c', oc, vc, Heap.of_hide e1, e2, e3, e4⟩, hc, vs, m₁, hv, x⟩)
      · refine .inr (.inr ⟨rfl, hc, ⟨o', es, n, ho', r⟩, fun key => ?_⟩)
        have := z key
        rw [OldK.staticOf_congr (Heap.hide_ne h (Ne.symm hP)) key] at this
        exact this
  · by_cases hb : b = P
    · exact ⟨_, hb ▸ h'⟩
    · exact K.there b o ((Heap.hide_ne h hb).trans e)
end Mine
end
section
open PySem PySem.W PyProof.Rows PySem.Spec
set_option maxHeartbeats 0
namespace Mine
abbrev pwL : Program := PySem.Challenge.pw_wz0015_03
abbrev rwL : OpenLaw := PySem.Challenge.rw_wz0015_03
noncomputable def stOf : List Stmt → Nat → Stmt
  | [], _ => .Pass ⟨0, 0, 0, 0⟩
  | s :: _, 0 => s
  | _ :: l, i + 1 => stOf l i
noncomputable def clsBody : Stmt → List Stmt
  | .ClassDef _ _ _ b _ _ _ _ _ _ _ => b
  | _ => []
noncomputable def stAt (i : Nat) : Stmt := stOf pwL.main.body i
noncomputable def stIn (i j : Nat) : Stmt := stOf (clsBody (stAt i)) j
noncomputable def fdN : Stmt → Str | .FunctionDef n _ _ _ _ _ _ _ _ _ => n | _ => ""
noncomputable def fdA : Stmt → Arguments | .FunctionDef _ a _ _ _ _ _ _ _ _ => a | _ => ⟨[], [], none, [], [], none, []⟩
noncomputable def fdB : Stmt → List Stmt | .FunctionDef _ _ b _ _ _ _ _ _ _ => b | _ => []
noncomputable def fdS : Stmt → Scope | .FunctionDef _ _ _ _ _ _ s _ _ _ => s | _ => default
noncomputable def fdP : Stmt → Pos | .FunctionDef _ _ _ _ _ _ _ _ _ p => p | _ => ⟨0, 0, 0, 0⟩
noncomputable def fnd (st : Stmt) (qual : String) (doc mod code : Value) : FuncData := ⟨fdN st, Str.ofString qual, fdA st, .stmts (fdB st), fdS st, 3, [], .none, .none, doc, mod, none, code, .none, 0⟩
noncomputable def fo (st : Stmt) (qual : String) (doc mod code : Value) : Obj := ⟨.type "function", none, .func (fnd st qual doc mod code), #[]⟩
noncomputable def de (P : Params) (x : String) (k : Tok) (v : Value) : DictEntry := ⟨PyData.keyHash P (Str.ofString x), .str (Str.ofString x) k, v⟩
noncomputable def co (nm q : String) (t line nargs a : Nat) (v13 v14 v15 : Value) (t16 : Nat) : Obj := ⟨.type "code", none, .fields #[.str (Str.ofString nm) t, .str (Str.ofString q) (t + 1), .str (Str.ofString "/claim/cut.py") (t + 2), .int line 0, .int nargs 0, .int 0 0, .int 0 0, .int 3 0,
  .ref a, .bool true, .int 181 0, .ref (a + 1), .none, v13, v14, v15, .int t16 0, .int line 0, .str (Str.ofString "/claim/cut.py") (t16 + 1)], #[]⟩
noncomputable def k3 (P : Params) : Obj := ⟨.type ("dict"), .none, .dict (#[de P "__name__" 165 (.str (Str.ofString "law_wz0015_03") 549), de P "__doc__" 166 .none, de P "__package__" 167 .none, de P "__loader__" 168 (.builtin ("__main__.__loader__#opaque")), de P "__spec__" 169 .none, de P "__annotations__" 170 (.ref 6), de P "__builtins__" 171 (.ref 4), de P "__file__" 173 (.str (Str.ofString "/claim/cut.py") 172), de P "__cached__" 174 .none, de P "_netrclex" 246 (.ref 52), de P "TupleComp" 290 (.ref 80), de P "add_func_stats" 308 (.ref 91), de P "add_callers" 319 (.ref 98), de P "count_calls" 328 (.ref 105), de P "ENDMARKER" 332 (.int 0 331), de P "LPAR" 334 (.int 7 333), de P "RPAR" 336 (.int 8 335), de P "LSQB" 338 (.int 9 337), de P "RSQB" 340 (.int 10 339), de P "COLON" 342 (.int 11 341), de P "COMMA" 344 (.int 12 343), de P "SEMI" 346 (.int 13 345), de P "PLUS" 348 (.int 14 347), de P "MINUS" 350 (.int 15 349), de P "STAR" 352 (.int 16 351), de P "SLASH" 354 (.int 17 353), de P "VBAR" 356 (.int 18 355), de P "AMPER" 358 (.int 19 357), de P "LESS" 360 (.int 20 359), de P "GREATER" 362 (.int 21 361), de P "EQUAL" 364 (.int 22 363), de P "DOT" 366 (.int 23 365), de P "PERCENT" 368 (.int 24 367), de P "LBRACE" 370 (.int 25 369), de P "RBRACE" 372 (.int 26 371), de P "EQEQUAL" 374 (.int 27 373), de P "NOTEQUAL" 376 (.int 28 375), de P "LESSEQUAL" 378 (.int 29 377), de P "GREATEREQUAL" 380 (.int 30 379), de P "TILDE" 382 (.int 31 381), de P "CIRCUMFLEX" 384 (.int 32 383), de P "LEFTSHIFT" 386 (.int 33 385), de P "RIGHTSHIFT" 388 (.int 34 387), de P "DOUBLESTAR" 390 (.int 35 389), de P "PLUSEQUAL" 392 (.int 36 391), de P "MINEQUAL" 394 (.int 37 393), de P "STAREQUAL" 396 (.int 38 395), de P "SLASHEQUAL" 398 (.int 39 397), de P "PERCENTEQUAL" 400 (.int 40 399), de P "AMPEREQUAL" 402 (.int 41 401), de P "VBAREQUAL" 404 (.int 42 403), de P "CIRCUMFLEXEQUAL" 406 (.int 43 405), de P "LEFTSHIFTEQUAL" 408 (.int 44 407), de P "RIGHTSHIFTEQUAL" 410 (.int 45 409), de P "DOUBLESTAREQUAL" 412 (.int 46 411), de P "DOUBLESLASH" 414 (.int 47 413), de P "DOUBLESLASHEQUAL" 416 (.int 48 415), de P "AT" 418 (.int 49 417), de P "ATEQUAL" 420 (.int 50 419), de P "RARROW" 422 (.int 51 421), de P "ELLIPSIS" 424 (.int 52 423), de P "COLONEQUAL" 426 (.int 53 425), de P "EXCLAMATION" 428 (.int 54 427), de P "NT_OFFSET" 430 (.int 256 429), de P "EXACT_TOKEN_TYPES" 527 (.ref 106), de P "ISTERMINAL" 534 (.ref 115), de P "ISNONTERMINAL" 541 (.ref 122), de P "ISEOF" 548 (.ref 129), de P "_law_text" 556 (.ref 134), de P "_law_lexer" 565 (.ref 141), de P "_law_kind" 571 (.ref 146), de P "_law_order" 577 (.ref 151), de P "_law_turns" 583 (.ref 156), de P "_law_chain" 589 (.ref 161), de P "_law_books" 595 (.ref 166), de P "law" 601 (.ref 171)]) 76, #[]⟩
noncomputable def k27 (P : Params) : Obj := co "__init__" "_netrclex.__init__" 201 4 2 22 (.ref 24) (.ref 25) (.ref 26) 206
noncomputable def k28 (P : Params) : Obj := fo (stIn 1 0) "_netrclex.__init__" .none (.str (Str.ofString "cpy313.netrc") 187) (.ref 27)
noncomputable def k34 (P : Params) : Obj := co "_read_char" "_netrclex._read_char" 209 10 1 29 (.ref 31) (.ref 32) (.ref 33) 214
noncomputable def k35 (P : Params) : Obj := fo (stIn 1 1) "_netrclex._read_char" .none (.str (Str.ofString "cpy313.netrc") 187) (.ref 34)
noncomputable def k41 (P : Params) : Obj := co "get_token" "_netrclex.get_token" 217 16 1 36 (.ref 38) (.ref 39) (.ref 40) 224
noncomputable def k42 (P : Params) : Obj := fo (stIn 1 2) "_netrclex.get_token" .none (.str (Str.ofString "cpy313.netrc") 187) (.ref 41)
noncomputable def k48 (P : Params) : Obj := co "push_token" "_netrclex.push_token" 227 43 2 43 (.ref 45) (.ref 46) (.ref 47) 232
noncomputable def k49 (P : Params) : Obj := fo (stIn 1 3) "_netrclex.push_token" .none (.str (Str.ofString "cpy313.netrc") 187) (.ref 48)
noncomputable def k51 (P : Params) : Obj := ⟨.type ("dict"), .none, .dict (#[de P "__module__" 196 (.str (Str.ofString "cpy313.netrc") 187), de P "__firstlineno__" 200 (.int 2 199), de P "__init__" 208 (.ref 28), de P "_read_char" 216 (.ref 35), de P "get_token" 226 (.ref 42), de P "push_token" 234 (.ref 49), de P "__static_attributes__" 239 (.ref 50), de P "__dict__" 241 (.ref 53), de P "__weakref__" 243 (.ref 54), de P "__doc__" 244 .none]) 4, #[]⟩
noncomputable def k52 (P : Params) : Obj := ⟨.type ("type"), .none, .cls (.mk (Str.ofString "_netrclex") ([.type ("object")]) ([.ref 52, .type ("object")]) 51 (Str.ofString "_netrclex") true [] [] false .none false), #[.none, .none, .some (.str (Str.ofString "_netrclex") 189), .some (.str (Str.ofString "_netrclex") 197), .some (.builtin ("object.__new__")), .some (.bool true)]⟩
noncomputable def k69 (P : Params) : Obj := co "__init__" "TupleComp.__init__" 261 48 2 64 (.ref 66) (.ref 67) (.ref 68) 266
noncomputable def k70 (P : Params) : Obj := fo (stIn 3 0) "TupleComp.__init__" .none (.str (Str.ofString "cpy313.pstats") 247) (.ref 69)
noncomputable def k76 (P : Params) : Obj := co "compare" "TupleComp.compare" 269 51 3 71 (.ref 73) (.ref 74) (.ref 75) 279
noncomputable def k77 (P : Params) : Obj := fo (stIn 3 1) "TupleComp.compare" .none (.str (Str.ofString "cpy313.pstats") 247) (.ref 76)
noncomputable def k79 (P : Params) : Obj := ⟨.type ("dict"), .none, .dict (#[de P "__module__" 256 (.str (Str.ofString "cpy313.pstats") 247), de P "__firstlineno__" 260 (.int 46 259), de P "__init__" 268 (.ref 70), de P "compare" 281 (.ref 77), de P "__static_attributes__" 283 (.ref 78), de P "__dict__" 285 (.ref 81), de P "__weakref__" 287 (.ref 82), de P "__doc__" 288 .none]) 4, #[]⟩
noncomputable def k80 (P : Params) : Obj := ⟨.type ("type"), .none, .cls (.mk (Str.ofString "TupleComp") ([.type ("object")]) ([.ref 80, .type ("object")]) 79 (Str.ofString "TupleComp") true [] [] false .none false), #[.none, .none, .some (.str (Str.ofString "TupleComp") 249), .some (.str (Str.ofString "TupleComp") 257), .some (.builtin ("object.__new__")), .some (.bool true)]⟩
noncomputable def k90 (P : Params) : Obj := co "add_func_stats" "add_func_stats" 291 60 2 85 (.ref 87) (.ref 88) (.ref 89) 306
noncomputable def k91 (P : Params) : Obj := fo (stAt 4) "add_func_stats" .none (.str (Str.ofString "cpy313.pstats") 247) (.ref 90)
noncomputable def k97 (P : Params) : Obj := co "add_callers" "add_callers" 309 64 2 92 (.ref 94) (.ref 95) (.ref 96) 317
noncomputable def k98 (P : Params) : Obj := fo (stAt 5) "add_callers" .none (.str (Str.ofString "cpy313.pstats") 247) (.ref 97)
noncomputable def k104 (P : Params) : Obj := co "count_calls" "count_calls" 320 77 1 99 (.ref 101) (.ref 102) (.ref 103) 326
noncomputable def k105 (P : Params) : Obj := fo (stAt 6) "count_calls" .none (.str (Str.ofString "cpy313.pstats") 247) (.ref 104)
noncomputable def k106 (P : Params) : Obj := ⟨.type ("dict"), .none, .dict (#[de P "!" 431 (.int 54 427), de P "!=" 433 (.int 28 375), de P "%" 435 (.int 24 367), de P "%=" 437 (.int 40 399), de P "&" 439 (.int 19 357), de P "&=" 441 (.int 41 401), de P "(" 443 (.int 7 333), de P ")" 445 (.int 8 335), de P "*" 447 (.int 16 351), de P "**" 449 (.int 35 389), de P "**=" 451 (.int 46 411), de P "*=" 453 (.int 38 395), de P "+" 455 (.int 14 347), de P "+=" 457 (.int 36 391), de P "," 459 (.int 12 343), de P "-" 461 (.int 15 349), de P "-=" 463 (.int 37 393), de P "->" 465 (.int 51 421), de P "." 467 (.int 23 365), de P "..." 469 (.int 52 423), de P "/" 471 (.int 17 353), de P "//" 473 (.int 47 413), de P "//=" 475 (.int 48 415), de P "/=" 477 (.int 39 397), de P ":" 479 (.int 11 341), de P ":=" 481 (.int 53 425), de P ";" 483 (.int 13 345), de P "<" 485 (.int 20 359), de P "<<" 487 (.int 33 385), de P "<<=" 489 (.int 44 407), de P "<=" 491 (.int 29 377), de P "=" 493 (.int 22 363), de P "==" 495 (.int 27 373), de P ">" 497 (.int 21 361), de P ">=" 499 (.int 30 379), de P ">>" 500 (.int 34 387), de P ">>=" 501 (.int 45 409), de P "@" 502 (.int 49 417), de P "@=" 503 (.int 50 419), de P "[" 504 (.int 9 337), de P "]" 505 (.int 10 339), de P "^" 506 (.int 32 383), de P "^=" 507 (.int 43 405), de P "{" 508 (.int 25 369), de P "|" 509 (.int 18 355), de P "|=" 510 (.int 42 403), de P "}" 511 (.int 26 371), de P "~" 512 (.int 31 381)]) 48, #[]⟩
noncomputable def k114 (P : Params) : Obj := co "ISTERMINAL" "ISTERMINAL" 528 134 1 109 (.ref 111) (.ref 112) (.ref 113) 532
noncomputable def k115 (P : Params) : Obj := fo (stAt 59) "ISTERMINAL" .none (.str (Str.ofString "cpy313.token") 329) (.ref 114)
noncomputable def k121 (P : Params) : Obj := co "ISNONTERMINAL" "ISNONTERMINAL" 535 136 1 116 (.ref 118) (.ref 119) (.ref 120) 539
noncomputable def k122 (P : Params) : Obj := fo (stAt 60) "ISNONTERMINAL" .none (.str (Str.ofString "cpy313.token") 329) (.ref 121)
noncomputable def k128 (P : Params) : Obj := co "ISEOF" "ISEOF" 542 138 1 123 (.ref 125) (.ref 126) (.ref 127) 546
noncomputable def k129 (P : Params) : Obj := fo (stAt 61) "ISEOF" .none (.str (Str.ofString "cpy313.token") 329) (.ref 128)
noncomputable def k133 (P : Params) : Obj := co "_law_text" "_law_text" 551 141 2 130 .none .none (.ref 132) 554
noncomputable def k134 (P : Params) : Obj := fo (stAt 63) "_law_text" .none (.str (Str.ofString "law_wz0015_03") 549) (.ref 133)
noncomputable def k140 (P : Params) : Obj := co "_law_lexer" "_law_lexer" 557 150 1 135 (.ref 137) (.ref 138) (.ref 139) 563
noncomputable def k141 (P : Params) : Obj := fo (stAt 64) "_law_lexer" .none (.str (Str.ofString "law_wz0015_03") 549) (.ref 140)
noncomputable def k145 (P : Params) : Obj := co "_law_kind" "_law_kind" 566 155 1 142 .none .none (.ref 144) 569
noncomputable def k146 (P : Params) : Obj := fo (stAt 65) "_law_kind" .none (.str (Str.ofString "law_wz0015_03") 549) (.ref 145)
noncomputable def k150 (P : Params) : Obj := co "_law_order" "_law_order" 572 160 2 147 .none .none (.ref 149) 575
noncomputable def k151 (P : Params) : Obj := fo (stAt 66) "_law_order" .none (.str (Str.ofString "law_wz0015_03") 549) (.ref 150)
noncomputable def k155 (P : Params) : Obj := co "_law_turns" "_law_turns" 578 169 2 152 .none .none (.ref 154) 581
noncomputable def k156 (P : Params) : Obj := fo (stAt 67) "_law_turns" .none (.str (Str.ofString "law_wz0015_03") 549) (.ref 155)
noncomputable def k160 (P : Params) : Obj := co "_law_chain" "_law_chain" 584 178 3 157 .none .none (.ref 159) 587
noncomputable def k161 (P : Params) : Obj := fo (stAt 68) "_law_chain" .none (.str (Str.ofString "law_wz0015_03") 549) (.ref 160)
noncomputable def k165 (P : Params) : Obj := co "_law_books" "_law_books" 590 182 4 162 .none .none (.ref 164) 593
noncomputable def k166 (P : Params) : Obj := fo (stAt 69) "_law_books" .none (.str (Str.ofString "law_wz0015_03") 549) (.ref 165)
noncomputable def K3 (P : Params) : Frag := [(3, k3 P), (27, k27 P), (28, k28 P), (34, k34 P), (35, k35 P), (41, k41 P), (42, k42 P), (48, k48 P), (49, k49 P), (51, k51 P), (52, k52 P), (69, k69 P), (70, k70 P), (76, k76 P), (77, k77 P), (79, k79 P), (80, k80 P), (90, k90 P), (91, k91 P), (97, k97 P), (98, k98 P), (104, k104 P), (105, k105 P), (106, k106 P), (114, k114 P), (115, k115 P), (121, k121 P), (122, k122 P), (128, k128 P), (129, k129 P), (133, k133 P), (134, k134 P), (140, k140 P), (141, k141 P), (145, k145 P), (146, k146 P), (150, k150 P), (151, k151 P), (155, k155 P), (156, k156 P), (160, k160 P), (161, k161 P), (165, k165 P), (166, k166 P)]
noncomputable def as3 : List Addr := [3, 27, 28, 34, 35, 41, 42, 48, 49, 51, 52, 69, 70, 76, 77, 79, 80, 90, 91, 97, 98, 104, 105, 106, 114, 115, 121, 122, 128, 129, 133, 134, 140, 141, 145, 146, 150, 151, 155, 156, 160, 161, 165, 166]
theorem asL_ok : ∀ P, as3 = (K3 P).map (·.1) := fun _ => rfl
noncomputable def HL : Hook := kmHook K3 as3 asL_ok [136]
noncomputable def qv : Program := { pwL with main := { pwL.main with body := [stAt 70] } }
noncomputable def looseL : List Str := pwL.boundNames.filter fun n => !(n == Str.ofString "law")
noncomputable def dL : DefRec := ⟨fdN (stAt 70), fdA (stAt 70), fdB (stAt 70), fdS (stAt 70), fdP (stAt 70)⟩
abbrev LP (w : World) : Prop := (openEnds treeTable pwL w 5026).map (fun s => (openSeen qv looseL (importedModules pwL.main.body) (fun s => xlAt qv [] s && recOk rwL.row.records s) true s, HL.obs s)) = some (openGood qv looseL, HL.val w)
theorem leftF : ∀ w : World, LP (w.withFollow "special-get-raises" false) := fun w => by kernel_rfl
theorem leftT : ∀ w : World, LP (w.withFollow "special-get-raises" true) := fun w => by kernel_rfl
theorem leftL : LeftO pwL qv looseL (fun s => xlAt qv [] s && recOk rwL.row.records s) HL.obs HL.val 5026 := byRow2 "special-get-raises" (P := LP) leftF leftT
theorem saidL : rwL.wellSaid = true := by kernel_rfl
theorem headL (call : WalkO qv looseL (XL qv []) HL.says rwL.row.toRowW dL [] fun f vs => PySem.call f vs) : rwL.Holds := by
  refine holds_law saidL fun said => ?_
  refine holds_open (q := qv) (loose := looseL) (Xt := fun s => xlAt qv [] s && recOk rwL.row.records s) (XP := XL qv []) (Yf := HL.obs) (Ya := HL.val) (YP := HL.says) (d := dL) (kwd := []) (N := 5026) leftL HL.of HL.keeps (fun s e => xl_of s (Bool.and_eq_true_iff.mp e).1) XL.keeps (by kernel_rfl) (by kernel_rfl) (by kernel_rfl) (fun s e => recFacts_of (Bool.and_eq_true_iff.mp e).2) (by kernel_rfl) (by first | assumption | decide +kernel) (by decide +kernel) ⟨rfl, rfl, rfl, rfl, rfl, by decide +kernel⟩ ?hw call
  w_witness2
end Mine
end
section
open PySem PySem.Spec PySem.Calls PyProof.Rows PySem.W PySem.SeqAt
set_option maxHeartbeats 1000000
namespace Mine
noncomputable def o3 (P : Params) : { o : Obj // (K3 P).lookup 3 = some o } := ⟨k3 P, by kernel_rfl⟩
noncomputable def es3 (P : Params) : { e : Array DictEntry × Nat // (o3 P).1.data = .dict e.1 e.2 } := ⟨(_, _), rfl⟩

noncomputable def gm (d : V) (v : Value) : Bool := match d with
  | .int i => (match v with | .int j _ => i == j | _ => false)
  | .ref a => (match v with | .ref b => a == b | _ => false)
  | _ => false
theorem gm_rel {prog : Program} {w : World} {Z : ZM} {d : V} {v : Value} (h : gm d v = true) : VRel prog w Z d v := by
  cases d with
  | int i =>
    cases v with
    | int j t => rw [eq_of_beq (show (i == j) = true from h)]; exact ⟨t, rfl⟩
    | _ => exact Bool.noConfusion h
  | ref a =>
    cases v with
    | ref b => rw [eq_of_beq (show (a == b) = true from h)]; exact rfl
    | _ => exact Bool.noConfusion h
  | _ => exact Bool.noConfusion h
noncomputable def GN : List (Str × V) := [(Str.ofString "NT_OFFSET", .int 256), (Str.ofString "ENDMARKER", .int 0), (Str.ofString "TupleComp", .ref 80), (Str.ofString "_netrclex", .ref 52), (Str.ofString "add_func_stats", .ref 91),
  (Str.ofString "add_callers", .ref 98), (Str.ofString "count_calls", .ref 105), (Str.ofString "EXACT_TOKEN_TYPES", .ref 106), (Str.ofString "ISTERMINAL", .ref 115), (Str.ofString "ISNONTERMINAL", .ref 122), (Str.ofString "ISEOF", .ref 129),
  (Str.ofString "_law_text", .ref 134), (Str.ofString "_law_lexer", .ref 141), (Str.ofString "_law_kind", .ref 146), (Str.ofString "_law_order", .ref 151), (Str.ofString "_law_turns", .ref 156), (Str.ofString "_law_chain", .ref 161), (Str.ofString "_law_books", .ref 166)]
noncomputable def BN : List (Str × Value) := [(Str.ofString "len", .builtin "len"), (Str.ofString "range", .type "range"), (Str.ofString "sum", .builtin "sum"), (Str.ofString "sorted", .builtin "sorted"), (Str.ofString "list", .type "list"), (Str.ofString "tuple", .type "tuple"), (Str.ofString "bool", .type "bool"),
  (Str.ofString "isinstance", .builtin "isinstance"), (Str.ofString "all", .builtin "all"), (Str.ofString "iter", .builtin "iter")]
theorem gn_ok (P : Params) : (GN.all fun p => match nsFind (es3 P).1.1 p.1 with | some v => gm p.2 v | none => false) = true := by kernel_rfl
theorem bn_ok (P : Params) : (BN.all fun p => (nsFind (es3 P).1.1 p.1).isNone && (bootBuiltins p.1 == some p.2) && !(p.1 == (Str.ofString "__name__"))) = true := by kernel_rfl

structure G3 (X : Cx) : Prop where
  K0 : ∀ a o, (K3 X.w.params).lookup a = some o → a ≠ 136 → X.base.get? a = some o
  lim : X.base.NoLimit
  b : ∃ mb, X.base.Ns builtinsNs mb ∧ ∀ x : Str, x ≠ "__name__" → mb x = bootBuiltins x
  g : ∃ mg, X.base.Ns mainGlobals mg
theorem G3.K {X : Cx} (G : G3 X) (a : Addr) (o : Obj) (h : (K3 X.w.params).lookup a = some o) (ne : a ≠ 136 := by decide) : X.base.get? a = some o := G.K0 a o h ne
section
variable {X : Cx} {σ σ' : St} {Z Z' : ZM} {s s' : Shared} {P : V → St → Prop}
theorem G3.find (G : G3 X) : ∃ mg, X.base.Ns mainGlobals mg ∧ ∀ x, nsFind (es3 X.w.params).1.1 x = mg x := by
  obtain ⟨mg, h⟩ := G.g
  obtain ⟨o, es, ep, ho, hd, hk, hf⟩ := id h
  have h3 := G.K _ _ (o3 X.w.params).2
  have e : X.base.get? 3 = some o := ho
  rw [e] at h3
  have h4 := (es3 X.w.params).2
  have h5 : o.data = .dict (es3 X.w.params).1.1 (es3 X.w.params).1.2 := (congrArg Obj.data (Option.some.inj h3)).trans h4
  rw [hd] at h5
  injection h5 with h6 h7
  exact ⟨mg, h, fun x => by rw [← h6]; exact hf x⟩
theorem G3.name (G : G3 X) {x pos d} (hx : (x, d) ∈ GN) (h : P d σ) (hg : X.env.globals = mainGlobals := by rfl) (hk : X.env.kindOf x = some .globalImplicit := by kernel_rfl) (hd : (x == ("__debug__" : Str)) = false := by kernel_rfl) : EV X (.Name x pos) σ P := fun Z s r => by
  obtain ⟨mg, hn, hf⟩ := G.find
  have ok := List.all_eq_true.mp (gn_ok X.w.params) _ hx
  have e : ∃ v, mg x = some v ∧ gm d v = true := by
    rw [← hf x]
    dsimp only at ok
    split at ok
    · rename_i v hv; exact ⟨v, hv, ok⟩
    · cases ok
  obtain ⟨v, hv, hm⟩ := e
  refine wpAny_Name ?_ hd
  rw [loadName_read r.fr.kind hk]
  have hn' := r.baseNs hn
  refine wpAny_bind (wpAny_nsGet (hg ▸ hn') ?_)
  rw [hv]
  exact wpAny_pure (hereV (d := d) (Ext.refl r) (gm_rel hm) h)
theorem G3.bname (G : G3 X) {x pos v} (hx : (x, v) ∈ BN) (h : P (.lit v) σ) (hg : X.env.globals = mainGlobals := by rfl) (hb : X.env.builtins = builtinsNs := by rfl) (hk : X.env.kindOf x = some .globalImplicit := by kernel_rfl) (hd : (x == ("__debug__" : Str)) = false := by kernel_rfl) : EV X (.Name x pos) σ P := fun Z s r => by
  obtain ⟨mg, hn, hf⟩ := G.find
  obtain ⟨mb, hnb, hbb⟩ := G.b
  have ok := List.all_eq_true.mp (bn_ok X.w.params) _ hx
  simp only [Bool.and_eq_true, Option.isNone_iff_eq_none, beq_iff_eq, Bool.not_eq_true', beq_eq_false_iff_ne] at ok
  obtain ⟨⟨ok1, ok2⟩, ok3⟩ := ok
  refine wpAny_Name ?_ hd
  rw [loadName_read r.fr.kind hk]
  have hn' := r.baseNs hn
  have hnb' := r.baseNs hnb
  refine wpAny_bind (wpAny_nsGet (hg ▸ hn') ?_)
  rw [← hf x, ok1]
  refine wpAny_bind (wpAny_nsGet (hb ▸ hnb') ?_)
  rw [hbb x ok3, ok2]
  exact wpAny_pure (hereV (d := .lit v) (Ext.refl r) rfl h)
end
theorem mem_hd {α : Type} {a : α} {l : List α} : a ∈ a :: l := List.mem_cons_self
theorem mem_tl {α : Type} {a b : α} {l : List α} (h : a ∈ l) : a ∈ b :: l := List.mem_cons_of_mem _ h
theorem cls_ne {o : Obj} {n : String} (h : o.cls = .type n) : o.cls ≠ .none := by rw [h]; intro h; cases h
theorem G3.callee {X : Cx} (G : G3 X) {fd L a} : G3 (X.callee fd L a) := ⟨G.K0, G.lim, G.b, G.g⟩
theorem G3.comp {X : Cx} (G : G3 X) {sc C} : G3 (X.comp sc C) := ⟨G.K0, G.lim, G.b, G.g⟩
noncomputable def o28 (P : Params) : { o : Obj // (K3 P).lookup 28 = some o } := ⟨k28 P, by kernel_rfl⟩
noncomputable def o27 (P : Params) : { o : Obj // (K3 P).lookup 27 = some o } := ⟨k27 P, by kernel_rfl⟩
noncomputable def f28 (P : Params) : { fd : FuncData // (o28 P).1.data = .func fd } := ⟨_, rfl⟩
noncomputable def b28 (P : Params) : { b : List Stmt // (f28 P).1.body = .stmts b } := ⟨_, rfl⟩
noncomputable def o35 (P : Params) : { o : Obj // (K3 P).lookup 35 = some o } := ⟨k35 P, by kernel_rfl⟩
noncomputable def o34 (P : Params) : { o : Obj // (K3 P).lookup 34 = some o } := ⟨k34 P, by kernel_rfl⟩
noncomputable def f35 (P : Params) : { fd : FuncData // (o35 P).1.data = .func fd } := ⟨_, rfl⟩
noncomputable def b35 (P : Params) : { b : List Stmt // (f35 P).1.body = .stmts b } := ⟨_, rfl⟩
noncomputable def o42 (P : Params) : { o : Obj // (K3 P).lookup 42 = some o } := ⟨k42 P, by kernel_rfl⟩
noncomputable def o41 (P : Params) : { o : Obj // (K3 P).lookup 41 = some o } := ⟨k41 P, by kernel_rfl⟩
noncomputable def f42 (P : Params) : { fd : FuncData // (o42 P).1.data = .func fd } := ⟨_, rfl⟩
noncomputable def b42 (P : Params) : { b : List Stmt // (f42 P).1.body = .stmts b } := ⟨_, rfl⟩
noncomputable def o49 (P : Params) : { o : Obj // (K3 P).lookup 49 = some o } := ⟨k49 P, by kernel_rfl⟩
noncomputable def o48 (P : Params) : { o : Obj // (K3 P).lookup 48 = some o } := ⟨k48 P, by kernel_rfl⟩
noncomputable def f49 (P : Params) : { fd : FuncData // (o49 P).1.data = .func fd } := ⟨_, rfl⟩
noncomputable def b49 (P : Params) : { b : List Stmt // (f49 P).1.body = .stmts b } := ⟨_, rfl⟩
noncomputable def o70 (P : Params) : { o : Obj // (K3 P).lookup 70 = some o } := ⟨k70 P, by kernel_rfl⟩
noncomputable def o69 (P : Params) : { o : Obj // (K3 P).lookup 69 = some o } := ⟨k69 P, by kernel_rfl⟩
noncomputable def f70 (P : Params) : { fd : FuncData // (o70 P).1.data = .func fd } := ⟨_, rfl⟩
noncomputable def b70 (P : Params) : { b : List Stmt // (f70 P).1.body = .stmts b } := ⟨_, rfl⟩
noncomputable def o77 (P : Params) : { o : Obj // (K3 P).lookup 77 = some o } := ⟨k77 P, by kernel_rfl⟩
noncomputable def o76 (P : Params) : { o : Obj // (K3 P).lookup 76 = some o } := ⟨k76 P, by kernel_rfl⟩
noncomputable def f77 (P : Params) : { fd : FuncData // (o77 P).1.data = .func fd } := ⟨_, rfl⟩
noncomputable def b77 (P : Params) : { b : List Stmt // (f77 P).1.body = .stmts b } := ⟨_, rfl⟩
noncomputable def o91 (P : Params) : { o : Obj // (K3 P).lookup 91 = some o } := ⟨k91 P, by kernel_rfl⟩
noncomputable def o90 (P : Params) : { o : Obj // (K3 P).lookup 90 = some o } := ⟨k90 P, by kernel_rfl⟩
noncomputable def f91 (P : Params) : { fd : FuncData // (o91 P).1.data = .func fd } := ⟨_, rfl⟩
noncomputable def b91 (P : Params) : { b : List Stmt // (f91 P).1.body = .stmts b } := ⟨_, rfl⟩
noncomputable def o98 (P : Params) : { o : Obj // (K3 P).lookup 98 = some o } := ⟨k98 P, by kernel_rfl⟩
noncomputable def o97 (P : Params) : { o : Obj // (K3 P).lookup 97 = some o } := ⟨k97 P, by kernel_rfl⟩
noncomputable def f98 (P : Params) : { fd : FuncData // (o98 P).1.data = .func fd } := ⟨_, rfl⟩
noncomputable def b98 (P : Params) : { b : List Stmt // (f98 P).1.body = .stmts b } := ⟨_, rfl⟩
noncomputable def o105 (P : Params) : { o : Obj // (K3 P).lookup 105 = some o } := ⟨k105 P, by kernel_rfl⟩
noncomputable def o104 (P : Params) : { o : Obj // (K3 P).lookup 104 = some o } := ⟨k104 P, by kernel_rfl⟩
noncomputable def f105 (P : Params) : { fd : FuncData // (o105 P).1.data = .func fd } := ⟨_, rfl⟩
noncomputable def b105 (P : Params) : { b : List Stmt // (f105 P).1.body = .stmts b } := ⟨_, rfl⟩
noncomputable def o115 (P : Params) : { o : Obj // (K3 P).lookup 115 = some o } := ⟨k115 P, by kernel_rfl⟩
noncomputable def o114 (P : Params) : { o : Obj // (K3 P).lookup 114 = some o } := ⟨k114 P, by kernel_rfl⟩
noncomputable def f115 (P : Params) : { fd : FuncData // (o115 P).1.data = .func fd } := ⟨_, rfl⟩
noncomputable def b115 (P : Params) : { b : List Stmt // (f115 P).1.body = .stmts b } := ⟨_, rfl⟩
noncomputable def o122 (P : Params) : { o : Obj // (K3 P).lookup 122 = some o } := ⟨k122 P, by kernel_rfl⟩
noncomputable def o121 (P : Params) : { o : Obj // (K3 P).lookup 121 = some o } := ⟨k121 P, by kernel_rfl⟩
noncomputable def f122 (P : Params) : { fd : FuncData // (o122 P).1.data = .func fd } := ⟨_, rfl⟩
noncomputable def b122 (P : Params) : { b : List Stmt // (f122 P).1.body = .stmts b } := ⟨_, rfl⟩
noncomputable def o129 (P : Params) : { o : Obj // (K3 P).lookup 129 = some o } := ⟨k129 P, by kernel_rfl⟩
noncomputable def o128 (P : Params) : { o : Obj // (K3 P).lookup 128 = some o } := ⟨k128 P, by kernel_rfl⟩
noncomputable def f129 (P : Params) : { fd : FuncData // (o129 P).1.data = .func fd } := ⟨_, rfl⟩
noncomputable def b129 (P : Params) : { b : List Stmt // (f129 P).1.body = .stmts b } := ⟨_, rfl⟩
noncomputable def o134 (P : Params) : { o : Obj // (K3 P).lookup 134 = some o } := ⟨k134 P, by kernel_rfl⟩
noncomputable def o133 (P : Params) : { o : Obj // (K3 P).lookup 133 = some o } := ⟨k133 P, by kernel_rfl⟩
noncomputable def f134 (P : Params) : { fd : FuncData // (o134 P).1.data = .func fd } := ⟨_, rfl⟩
noncomputable def b134 (P : Params) : { b : List Stmt // (f134 P).1.body = .stmts b } := ⟨_, rfl⟩
noncomputable def o141 (P : Params) : { o : Obj // (K3 P).lookup 141 = some o } := ⟨k141 P, by kernel_rfl⟩
noncomputable def o140 (P : Params) : { o : Obj // (K3 P).lookup 140 = some o } := ⟨k140 P, by kernel_rfl⟩
noncomputable def f141 (P : Params) : { fd : FuncData // (o141 P).1.data = .func fd } := ⟨_, rfl⟩
noncomputable def b141 (P : Params) : { b : List Stmt // (f141 P).1.body = .stmts b } := ⟨_, rfl⟩
noncomputable def o146 (P : Params) : { o : Obj // (K3 P).lookup 146 = some o } := ⟨k146 P, by kernel_rfl⟩
noncomputable def o145 (P : Params) : { o : Obj // (K3 P).lookup 145 = some o } := ⟨k145 P, by kernel_rfl⟩
noncomputable def f146 (P : Params) : { fd : FuncData // (o146 P).1.data = .func fd } := ⟨_, rfl⟩
noncomputable def b146 (P : Params) : { b : List Stmt // (f146 P).1.body = .stmts b } := ⟨_, rfl⟩
noncomputable def o151 (P : Params) : { o : Obj // (K3 P).lookup 151 = some o } := ⟨k151 P, by kernel_rfl⟩
noncomputable def o150 (P : Params) : { o : Obj // (K3 P).lookup 150 = some o } := ⟨k150 P, by kernel_rfl⟩
noncomputable def f151 (P : Params) : { fd : FuncData // (o151 P).1.data = .func fd } := ⟨_, rfl⟩
noncomputable def b151 (P : Params) : { b : List Stmt // (f151 P).1.body = .stmts b } := ⟨_, rfl⟩
noncomputable def o156 (P : Params) : { o : Obj // (K3 P).lookup 156 = some o } := ⟨k156 P, by kernel_rfl⟩
noncomputable def o155 (P : Params) : { o : Obj // (K3 P).lookup 155 = some o } := ⟨k155 P, by kernel_rfl⟩
noncomputable def f156 (P : Params) : { fd : FuncData // (o156 P).1.data = .func fd } := ⟨_, rfl⟩
noncomputable def b156 (P : Params) : { b : List Stmt // (f156 P).1.body = .stmts b } := ⟨_, rfl⟩
noncomputable def o161 (P : Params) : { o : Obj // (K3 P).lookup 161 = some o } := ⟨k161 P, by kernel_rfl⟩
noncomputable def o160 (P : Params) : { o : Obj // (K3 P).lookup 160 = some o } := ⟨k160 P, by kernel_rfl⟩
noncomputable def f161 (P : Params) : { fd : FuncData // (o161 P).1.data = .func fd } := ⟨_, rfl⟩
noncomputable def b161 (P : Params) : { b : List Stmt // (f161 P).1.body = .stmts b } := ⟨_, rfl⟩
noncomputable def o166 (P : Params) : { o : Obj // (K3 P).lookup 166 = some o } := ⟨k166 P, by kernel_rfl⟩
noncomputable def o165 (P : Params) : { o : Obj // (K3 P).lookup 165 = some o } := ⟨k165 P, by kernel_rfl⟩
noncomputable def f166 (P : Params) : { fd : FuncData // (o166 P).1.data = .func fd } := ⟨_, rfl⟩
noncomputable def b166 (P : Params) : { b : List Stmt // (f166 P).1.body = .stmts b } := ⟨_, rfl⟩
noncomputable def FA : List Addr := [91, 98, 105, 115, 122, 129, 134, 141, 146, 151, 156, 161, 166]
section
variable {X : Cx} {σ σ' : St} {Z Z' : ZM} {s s' : Shared} {P : V → St → Prop}
theorem keep3 (G : G3 X) {a : Addr} (h : a ∈ FA) : Keep X σ (.ref a) := by
  unfold FA at h
  simp only [List.mem_cons, List.not_mem_nil, or_false] at h
  rcases h with rfl | rfl | rfl | rfl | rfl | rfl | rfl | rfl | rfl | rfl | rfl | rfl | rfl
  · exact Keep.func (G.K _ _ (o91 _).2) (f91 _).2 (cls_ne (n := "function") (by kernel_rfl))
  · exact Keep.func (G.K _ _ (o98 _).2) (f98 _).2 (cls_ne (n := "function") (by kernel_rfl))
  · exact Keep.func (G.K _ _ (o105 _).2) (f105 _).2 (cls_ne (n := "function") (by kernel_rfl))
  · exact Keep.func (G.K _ _ (o115 _).2) (f115 _).2 (cls_ne (n := "function") (by kernel_rfl))
  · exact Keep.func (G.K _ _ (o122 _).2) (f122 _).2 (cls_ne (n := "function") (by kernel_rfl))
  · exact Keep.func (G.K _ _ (o129 _).2) (f129 _).2 (cls_ne (n := "function") (by kernel_rfl))
  · exact Keep.func (G.K _ _ (o134 _).2) (f134 _).2 (cls_ne (n := "function") (by kernel_rfl))
  · exact Keep.func (G.K _ _ (o141 _).2) (f141 _).2 (cls_ne (n := "function") (by kernel_rfl))
  · exact Keep.func (G.K _ _ (o146 _).2) (f146 _).2 (cls_ne (n := "function") (by kernel_rfl))
  · exact Keep.func (G.K _ _ (o151 _).2) (f151 _).2 (cls_ne (n := "function") (by kernel_rfl))
  · exact Keep.func (G.K _ _ (o156 _).2) (f156 _).2 (cls_ne (n := "function") (by kernel_rfl))
  · exact Keep.func (G.K _ _ (o161 _).2) (f161 _).2 (cls_ne (n := "function") (by kernel_rfl))
  · exact Keep.func (G.K _ _ (o166 _).2) (f166 _).2 (cls_ne (n := "function") (by kernel_rfl))

/-- a function of the top is called -/
theorem EV.callG (G : G3 X) {x p1 args pos} (a : Addr) (hx : (x, V.ref a) ∈ GN) (ha : a ∈ FA) (h : EVs X pos args σ fun ds σ2 => CALL X (.ref a) ds σ2 P)
    (hg : X.env.globals = mainGlobals := by rfl) (hk : X.env.kindOf x = some .globalImplicit := by kernel_rfl) (hd : (x == ("__debug__" : Str)) = false := by kernel_rfl)
    (hp : ∀ env, (starEach args env).any (·.1) = false := by intro _; rfl)
    (he : ∀ env, eval (.Call (.Name x p1) args [] pos) env = (do callWith pos (← eval (.Name x p1) env) [] (backTo pos (starEach args env)) (backToKw pos (keywordEach [] env))) := by intro _; rfl) : EV X (.Call (.Name x p1) args [] pos) σ P :=
  EV.call (G.name hx ⟨.ref a, fun _ _ h => h, J.mono h fun ds σ2 hc => ⟨keep3 G ha, hc⟩⟩ hg hk hd) hp he
theorem EV.callB (G : G3 X) {x p1 args pos} (id : String) (hx : (x, Value.builtin id) ∈ BN) (h : EVs X pos args σ fun ds σ2 => CALL X (.builtin id) ds σ2 P)
    (hg : X.env.globals = mainGlobals := by rfl) (hb : X.env.builtins = builtinsNs := by rfl) (hk : X.env.kindOf x = some .globalImplicit := by kernel_rfl) (hd : (x == ("__debug__" : Str)) = false := by kernel_rfl)
    (hp : ∀ env, (starEach args env).any (·.1) = false := by intro _; rfl)
    (he : ∀ env, eval (.Call (.Name x p1) args [] pos) env = (do callWith pos (← eval (.Name x p1) env) [] (backTo pos (starEach args env)) (backToKw pos (keywordEach [] env))) := by intro _; rfl) : EV X (.Call (.Name x p1) args [] pos) σ P :=
  EV.call (G.bname hx ⟨.builtin id, fun _ _ h => h, J.mono h fun ds σ2 hc => ⟨Keep.builtin, hc⟩⟩ hg hb hk hd) hp he
theorem EV.callT (G : G3 X) {x p1 args pos} (T : String) (hx : (x, Value.type T) ∈ BN) (h : EVs X pos args σ fun ds σ2 => CALL X (.type T) ds σ2 P)
    (hg : X.env.globals = mainGlobals := by rfl) (hb : X.env.builtins = builtinsNs := by rfl) (hk : X.env.kindOf x = some .globalImplicit := by kernel_rfl) (hd : (x == ("__debug__" : Str)) = false := by kernel_rfl)
    (hp : ∀ env, (starEach args env).any (·.1) = false := by intro _; rfl)
    (he : ∀ env, eval (.Call (.Name x p1) args [] pos) env = (do callWith pos (← eval (.Name x p1) env) [] (backTo pos (starEach args env)) (backToKw pos (keywordEach [] env))) := by intro _; rfl) : EV X (.Call (.Name x p1) args [] pos) σ P :=
  EV.call (G.bname hx ⟨.type T, fun _ _ h => h, J.mono h fun ds σ2 hc => ⟨Keep.type, hc⟩⟩ hg hb hk hd) hp he
end
theorem range_at {n i j : Nat} (h : (List.range n)[i]? = some j) : j = i ∧ i < n := by
  obtain ⟨h1, h2⟩ := List.getElem?_eq_some_iff.mp h
  rw [List.length_range] at h1
  rw [List.getElem_range] at h2
  exact ⟨h2.symm, h1⟩
theorem int_in {i c : Nat} (h : i ≤ c) (hc : c ≤ 2 ^ 40 := by decide) : -2 ^ 63 ≤ (i : Int) ∧ (i : Int) < 2 ^ 63 := by omega
theorem int_64 {i c : Nat} (h : i ≤ c) (hc : c ≤ 2 ^ 40 := by decide) : -2 ^ 64 < (i : Int) ∧ (i : Int) < 2 ^ 64 := by omega
theorem int_lt {i c : Nat} (h : i ≤ c) (hc : c ≤ 2 ^ 40 := by decide) : (i : Int) < 2 ^ 63 := by omega
theorem int_pos {i c : Nat} (h0 : 0 < i) (h : i ≤ c) (hc : c ≤ 2 ^ 20 := by decide) : 0 < (i : Int) ∧ (i : Int) < 1073741824 := by omega
theorem nat_pos {i c : Nat} (h0 : 0 < i) (h : i ≤ c) (hc : c ≤ 2 ^ 20 := by decide) : 0 < i ∧ i < 1073741824 := by omega
theorem int_ne {i : Nat} (h0 : 0 < i) : (i : Int) ≠ 0 := by omega
theorem int_ix {i n : Nat} (h : i < n) : 0 ≤ (i : Int) ∧ (i : Int) < n := by omega
theorem le_sl {a b : Nat} (h : a ≤ b) (hb : b ≤ 2 ^ 24 := by decide) : a ≤ sizeLine := Nat.le_trans h hb
end Mine
end
section
open PySem PySem.Spec PySem.Calls PyProof.Rows PySem.W PySem.SeqAt
set_option compiler.extract_closed false
set_option maxHeartbeats 1000000
namespace Mine
local macro_rules | `(tactic| walk_at "vmem") => `(tactic| first | with_reducible exact mem_hd | (with_reducible apply mem_tl; walk_at "vmem") | (with_reducible apply mem_right; walk_at "vmem") | (with_reducible apply mem_left; walk_at "vmem"))
local macro_rules | `(tactic| walk_at "vup") => `(tactic| first | with_reducible exact Up.head | (with_reducible apply Up.tail; walk_at "vup"))
local macro_rules | `(tactic| walk_at "vupm") => `(tactic| first | with_reducible exact UpM.head | (with_reducible apply UpM.tail; walk_at "vupm") | (with_reducible apply UpM.right; walk_at "vupm") | (with_reducible apply UpM.left; walk_at "vupm"))
local macro_rules | `(tactic| walk_at "vside") => `(tactic| first | rfl | kernel_rfl)
local macro_rules | `(tactic| walk_at "vg") => `(tactic| first | with_reducible assumption | exact G3.comp (by with_reducible assumption) | exact G3.comp (G3.comp (by with_reducible assumption)))
local macro_rules | `(tactic| walk_at "vgn") => `(tactic| (unfold GN; walk_at "vmem"))
local macro_rules | `(tactic| walk_at "vbn") => `(tactic| (unfold BN; walk_at "vmem"))
local macro_rules | `(tactic| walk_at "vm") => `(tactic| ((try dsimp only); walk_at "vmem"))
local macro_rules | `(tactic| walk_at "vu") => `(tactic| ((try dsimp only); walk_at "vup"))
local macro_rules | `(tactic| walk_at "vum") => `(tactic| ((try dsimp only); walk_at "vupm"))
local macro_rules | `(tactic| walk_at "v") => `(tactic| ((try dsimp only); first
  | ((with_reducible show EV _ _ _ _); first | with_reducible (first | refine EV.int ?_ | refine EV.bin ?_ | refine EV.sub ?_ | refine EV.str ?_ | refine EV.bool ?_ | refine EV.none ?_ | refine EV.una ?_ | refine EV.ife ?_ | refine EV.tup ?_ | refine EV.slice ?_ | refine EV.and ?_ | refine EV.or ?_) | ((with_reducible show EV _ (PySem.Expr.Name _ _) _ _); first | refine EV.loc (by walk_at "vm") ?_ | refine EV.cel (by walk_at "vm") ?_ | refine EV.cap (by walk_at "vm") ?_ | refine G3.name (by walk_at "vg") (by walk_at "vgn") ?_ | refine G3.bname (by walk_at "vg") (by walk_at "vbn") ?_) | ((with_reducible show EV _ (PySem.Expr.Compare _ [_] [_] _) _ _); refine EV.cmp ?_))
  | ((with_reducible show EX _ _ _ _); first | with_reducible refine EX.nil ?_ | (refine EX.cons1 ?_; intro _ _))
  | ((with_reducible show ES _ _ _ _); first | with_reducible (first | refine ES.ret ?_ | refine ES.ite ?_ | refine ES.augN ?_ | refine ES.cont ?_ | refine ES.brk ?_) | ((with_reducible show ES _ (Stmt.Assign [PySem.Expr.Name _ _] _ _) _ _); refine ES.asg ?_ (by walk_at "vside") (by walk_at "vside") (by walk_at "vside")) | ((with_reducible show ES _ (Stmt.AugAssign (PySem.Expr.Subscript _ _ _) _ _ _) _ _); refine ES.augSub ?_) | ((with_reducible show ES _ (Stmt.Expr _ _) _ _); refine ES.expr ?_ (by walk_at "vside") (by walk_at "vside")))
  | ((with_reducible show EVs _ _ _ _ _); first | with_reducible refine EVs.nil ?_ | refine EVs.cons ?_)
  | ((with_reducible show EVO _ _ _ _); first | with_reducible (first | refine EVO.some ?_ | refine EVO.none ?_))
  | ((with_reducible show AS _ (PySem.Expr.Name _ _) _ _ _); first | refine AS.loc (by walk_at "vu") ?_ | refine AS.cel (by walk_at "vu") ?_)
  | ((with_reducible show AS _ (PySem.Expr.Tuple _ _ _) _ _ _); refine AS.tup (by with_reducible assumption) ?_ (by walk_at "vside") (by intro _; walk_at "vside") (by intro _; walk_at "vside"))
  | ((with_reducible show SN _ _ _ _ _); first | refine SN.loc (by walk_at "vu") ?_ | refine SN.cel (by walk_at "vu") ?_)
  | ((with_reducible show LN _ _ _ _); first | refine LN.loc (by walk_at "vm") ?_ | refine LN.cel (by walk_at "vm") ?_)
  | ((with_reducible show ET _ _ _ _); first | with_reducible (first | refine ET.not ?_ | refine ET.bool ?_) | ((with_reducible show ET _ (PySem.Expr.Compare _ [_] [_] _) _ _); refine ET.cmp ?_) | refine ET.val ?_)
  | ((with_reducible show ASs _ _ _ _ _); first | with_reducible (first | refine ASs.cons ?_ | refine ASs.nil ?_))
  | ((with_reducible show AT _ _ _ _ _); first | with_reducible (first | refine AT.andCons ?_ | refine AT.andNil ?_ | refine AT.orCons ?_ | refine AT.orNil ?_))
  | ((with_reducible show TS _ _ _ _); first | with_reducible (first | refine TS.nil ?_ | refine TS.one ?_))
  | ((with_reducible show CMP _ _ _ _ _ _); first | with_reducible (first | refine CMP.eqi ?_ | refine CMP.nei ?_ | refine CMP.lti ?_ | refine CMP.lei ?_ | refine CMP.gti ?_ | refine CMP.gei ?_ | refine CMP.eqs ?_ | refine CMP.nes ?_))
  | with_reducible (first | refine BIN.add ?_ | refine BIN.sub ?_ | refine INP.add ?_ | refine UNA.neg ?_ | refine TRU.bool ?_)
  | ((with_reducible show EXK _ _ _ _ _); intro _ _; try walk_at "v")
  | (with_reducible (refine Kont.next (by assumption) ?_); try walk_at "v")
  | with_reducible (first | refine Kont.ret (by assumption) ?_ | refine KontL.next (by assumption) ?_ | refine KontL.cont (by assumption) ?_ | refine KontL.ret (by assumption) ?_ | refine KontL.brk (by assumption) ?_ | refine Kont.cont (by assumption) ?_ | refine Kont.brk (by assumption) ?_)))
local macro_rules | `(tactic| walk_at "vs") => `(tactic| repeat walk_at "v")
local macro_rules | `(tactic| walk_at "vl") => `(tactic| ((try dsimp only); refine ⟨Nat.le_of_ble_eq_true (by rfl), ?_⟩))
local macro_rules | `(tactic| walk_at "vss") => `(tactic| repeat (first | walk_at "v" | ((with_reducible show List.length _ ≤ sizeLine ∧ _); refine ⟨Nat.le_of_ble_eq_true (by rfl), ?_⟩)))
local macro_rules | `(tactic| walk_at "vsc") => `(tactic| first | exact ScL.nil | (apply ScL.loc; walk_at "vsc") | (apply ScL.cell; walk_at "vsc") | (apply ScL.glob; walk_at "vsc") | (apply ScL.cap (by walk_at "vm"); walk_at "vsc") | (apply ScL.cel (by walk_at "vm"); walk_at "vsc"))
local macro_rules | `(tactic| walk_at "vwk") => `(tactic| first | exact Wk.nil | (apply Wk.same; walk_at "vwk") | (apply Wk.forget; walk_at "vwk"))
local macro_rules | `(tactic| walk_at "vback") => `(tactic| exact ⟨by (try dsimp only); walk_at "vwk", by (try dsimp only); walk_at "vwk", rfl, rfl⟩)
local macro_rules | `(tactic| walk_at "o") => `(tactic| first | with_reducible assumption | exact Nat.le_trans (by with_reducible assumption) (by decide) | exact Nat.le_trans (by with_reducible assumption).1 (by decide) | exact Nat.le_trans (Nat.le_of_eq (by with_reducible assumption)) (Nat.le_trans (by with_reducible assumption) (by decide)) | exact Nat.lt_of_lt_of_eq (by with_reducible assumption) (Eq.symm (by with_reducible assumption)) | omega)

section
set_option compiler.extract_closed false
set_option maxHeartbeats 1000000

section
variable {X : Cx} {σ : St} {k : Nat} {P : V → St → Prop}
theorem sp_105 (G : G3 X) (hA : Rm X.A (k + 1)) {ks : List Int} {l : List Int} (h : P (.int l.sum) σ) : CALL X (.ref 105) [.idict ks (l.map V.int)] σ P := by
  refine CALL.def (ps := [Str.ofString "callers"]) (loc := [(Str.ofString "callers", some ((.idict ks (l.map V.int)))), (Str.ofString "nc", none), (Str.ofString "calls", none)]) (cel := []) (sub := []) (rest := σ.mem) hA G.lim (G.K _ _ (o105 _).2) (cls_ne (n := "function") (by kernel_rfl)) (f105 X.w.params).2 (b105 _).2 (by kernel_rfl) ⟨104, _, _, _, rfl, G.K _ _ (o104 _).2, rfl, rfl⟩ ?_ rfl (by kernel_rfl) ⟨rfl, trivial⟩ trivial rfl ?_ (by kernel_rfl) (by kernel_rfl) (by kernel_rfl)
  · intro vs hv
    rcases vs with _ | ⟨v1, _ | _⟩ <;> simp at hv
    kernel_rfl
  intro L
  have hR : Rm (X.callee (f105 X.w.params).1 L 105).A (k) := hA.deeper
  have hh : (X.callee (f105 X.w.params).1 L 105).A.handled = none := hR.handled
  have G' : G3 (X.callee (f105 X.w.params).1 L 105) := G.callee
  iterate 5 walk_at "v"
  refine ES.for hh ?_
  refine EV.meth "dict" "dict.values" F.plainAttrs_dict F.slot_dict_values F.type_dict_values ?_
  walk_at "v"
  refine ⟨TypeV.idict, ?_⟩
  walk_at "v"
  refine CALL.ivalues ?_
  refine ⟨_, ITER.ivals hh, fun i σ2 => ∃ u, σ2 = ⟨[(Str.ofString "callers", some (.idict ks (l.map V.int))), (Str.ofString "nc", some (.int (l.take i).sum)), (Str.ofString "calls", u)], [], [], []⟩, ⟨_, rfl⟩, ?_, ?_⟩
  · rintro i di σ2 hi ⟨u, rfl⟩
    rw [List.getElem?_map, Option.map_eq_some_iff] at hi
    obtain ⟨x, hx, rfl⟩ := hi
    walk_at "vs"
    exact ⟨some (.int x), by rw [take_succ_of hx]; simp⟩
  · rintro σ2 ⟨u, rfl⟩
    walk_at "vs"
    simp only [List.length_map, List.take_length]
    exact h
theorem sp_115 (G : G3 X) (hA : Rm X.A (k + 1)) {i : Int} (h : P (.bool (decide (i < 256))) σ) : CALL X (.ref 115) [.int i] σ P := by
  refine CALL.def (ps := [Str.ofString "x"]) (loc := [(Str.ofString "x", some (.int i))]) (cel := []) (sub := []) (rest := σ.mem) hA G.lim (G.K _ _ (o115 _).2) (cls_ne (n := "function") (by kernel_rfl)) (f115 X.w.params).2 (b115 _).2 (by kernel_rfl) ⟨114, _, _, _, rfl, G.K _ _ (o114 _).2, rfl, rfl⟩ ?_ rfl (by kernel_rfl) ⟨rfl, trivial⟩ trivial rfl ?_ (by kernel_rfl) (by kernel_rfl) (by kernel_rfl)
  · intro vs hv
    rcases vs with _ | ⟨v1, _ | _⟩ <;> simp at hv
    kernel_rfl
  intro L
  have hR : Rm (X.callee (f115 X.w.params).1 L 115).A (k) := hA.deeper
  have hh : (X.callee (f115 X.w.params).1 L 115).A.handled = none := hR.handled
  have G' : G3 (X.callee (f115 X.w.params).1 L 115) := G.callee
  walk_at "vs"
  exact h
theorem sp_122 (G : G3 X) (hA : Rm X.A (k + 1)) {i : Int} (h : P (.bool (decide (256 ≤ i))) σ) : CALL X (.ref 122) [.int i] σ P := by
  refine CALL.def (ps := [Str.ofString "x"]) (loc := [(Str.ofString "x", some (.int i))]) (cel := []) (sub := []) (rest := σ.mem) hA G.lim (G.K _ _ (o122 _).2) (cls_ne (n := "function") (by kernel_rfl)) (f122 X.w.params).2 (b122 _).2 (by kernel_rfl) ⟨121, _, _, _, rfl, G.K _ _ (o121 _).2, rfl, rfl⟩ ?_ rfl (by kernel_rfl) ⟨rfl, trivial⟩ trivial rfl ?_ (by kernel_rfl) (by kernel_rfl) (by kernel_rfl)
  · intro vs hv
    rcases vs with _ | ⟨v1, _ | _⟩ <;> simp at hv
    kernel_rfl
  intro L
  have hR : Rm (X.callee (f122 X.w.params).1 L 122).A (k) := hA.deeper
  have hh : (X.callee (f122 X.w.params).1 L 122).A.handled = none := hR.handled
  have G' : G3 (X.callee (f122 X.w.params).1 L 122) := G.callee
  walk_at "vs"
  exact h
theorem sp_129 (G : G3 X) (hA : Rm X.A (k + 1)) {i : Int} (h : P (.bool (i == 0)) σ) : CALL X (.ref 129) [.int i] σ P := by
  refine CALL.def (ps := [Str.ofString "x"]) (loc := [(Str.ofString "x", some (.int i))]) (cel := []) (sub := []) (rest := σ.mem) hA G.lim (G.K _ _ (o129 _).2) (cls_ne (n := "function") (by kernel_rfl)) (f129 X.w.params).2 (b129 _).2 (by kernel_rfl) ⟨128, _, _, _, rfl, G.K _ _ (o128 _).2, rfl, rfl⟩ ?_ rfl (by kernel_rfl) ⟨rfl, trivial⟩ trivial rfl ?_ (by kernel_rfl) (by kernel_rfl) (by kernel_rfl)
  · intro vs hv
    rcases vs with _ | ⟨v1, _ | _⟩ <;> simp at hv
    kernel_rfl
  intro L
  have hR : Rm (X.callee (f129 X.w.params).1 L 129).A (k) := hA.deeper
  have hh : (X.callee (f129 X.w.params).1 L 129).A.handled = none := hR.handled
  have G' : G3 (X.callee (f129 X.w.params).1 L 129) := G.callee
  walk_at "vs"
  exact h
end
end
section
set_option compiler.extract_closed false
set_option maxHeartbeats 1000000


theorem vput_map {K : Type} [DecidableEq K] {α β : Type} (f : α → β) : ∀ (ks : List K) (l : List α) (k : K) (d : α), vput ks (l.map f) k (f d) = (vput ks l k d).map f := by
  intro ks l k d
  unfold vput
  split
  · rename_i h; clear h
    induction ks generalizing l with
    | nil => rfl
    | cons a ks ih =>
      cases l with
      | nil => rfl
      | cons b l =>
        simp only [List.map_cons, List.zipWith_cons_cons, ih]
        congr 1
        split <;> rfl
  · simp
theorem vat_map {K : Type} [DecidableEq K] {α β : Type} (f : α → β) : ∀ (ks : List K) (l : List α) (k : K), vat ks (l.map f) k = (vat ks l k).map f := by
  intro ks
  induction ks with
  | nil => intro l k; rfl
  | cons a ks ih =>
    intro l k
    cases l with
    | nil => rfl
    | cons b l => rw [List.map_cons, vat_cons, vat_cons, ih]; split <;> rfl
noncomputable def addStep (a : List Int × List Int) (p : Int × Int) : List Int × List Int := if p.1 ∈ a.1 then (kput a.1 p.1, vput a.1 a.2 p.1 ((vat a.1 a.2 p.1).getD 0 + p.2)) else (kput a.1 p.1, vput a.1 a.2 p.1 p.2)
noncomputable def addC (ks l ks' l' : List Int) : List Int × List Int := (ks'.zip l').foldl addStep (putAll (ks.zip l) ([], []))
theorem addStep_len (a : List Int × List Int) (p : Int × Int) : (addStep a p).1.length ≤ a.1.length + 1 := by
  unfold addStep; split <;> exact kput_len _ _
theorem addFold_len : ∀ (l : List (Int × Int)) (a : List Int × List Int), (l.foldl addStep a).1.length ≤ a.1.length + l.length
  | [], a => by simp
  | p :: l, a => by
    have h1 := addFold_len l (addStep a p)
    have h2 := addStep_len a p
    rw [List.foldl_cons, List.length_cons]; omega
theorem put_eqlen {K : Type} [DecidableEq K] {β : Type} : ∀ (l : List (K × β)) (a : List K × List β), a.1.length = a.2.length → (putAll l a).1.length = (putAll l a).2.length
  | [], _, h => h
  | p :: l, (ks, vs), h => put_eqlen l _ (put_len h)
theorem addFold_eqlen : ∀ (l : List (Int × Int)) (a : List Int × List Int), a.1.length = a.2.length → (l.foldl addStep a).1.length = (l.foldl addStep a).2.length
  | [], _, h => h
  | p :: l, a, h => addFold_eqlen l _ (by unfold addStep; split <;> exact put_len h)
section
variable {X : Cx} {σ : St} {k : Nat} {P : V → St → Prop}
theorem sp_98 (G : G3 X) (hA : Rm X.A (k + 1)) {ks l ks' l' : List Int} (hl : ks.length ≤ 1000000) (hl' : ks'.length ≤ 1000000) (h : P (.idict (addC ks l ks' l').1 ((addC ks l ks' l').2.map V.int)) σ) : CALL X (.ref 98) [(.idict ks (l.map V.int)), (.idict ks' (l'.map V.int))] σ P := by
  refine CALL.def (ps := [Str.ofString "target", Str.ofString "source"]) (loc := [(Str.ofString "target", some ((.idict ks (l.map V.int)))), (Str.ofString "source", some ((.idict ks' (l'.map V.int)))), (Str.ofString "new_callers", none), (Str.ofString "func", none), (Str.ofString "caller", none)]) (cel := []) (sub := []) (rest := σ.mem) hA G.lim (G.K _ _ (o98 _).2) (cls_ne (n := "function") (by kernel_rfl)) (f98 X.w.params).2 (b98 _).2 (by kernel_rfl) ⟨97, _, _, _, rfl, G.K _ _ (o97 _).2, rfl, rfl⟩ ?_ rfl (by kernel_rfl) ⟨rfl, rfl, trivial⟩ trivial rfl ?_ (by kernel_rfl) (by kernel_rfl) (by kernel_rfl)
  · intro vs hv
    rcases vs with _ | ⟨v1, _ | ⟨v2, _ | _⟩⟩ <;> simp at hv
    kernel_rfl
  intro L
  have hR : Rm (X.callee (f98 X.w.params).1 L 98).A (k) := hA.deeper
  have hh : (X.callee (f98 X.w.params).1 L 98).A.handled = none := hR.handled
  have G' : G3 (X.callee (f98 X.w.params).1 L 98) := G.callee
  refine EX.frz ?_
  walk_at "v"
  walk_at "v"
  refine EV.dictMI fun a => ?_
  walk_at "v"
  walk_at "v"
  have fin1 : (ks.zip (l.map V.int)).map (fun p : Int × V => V.tup [.int p.1, p.2]) = (ks.zip l).map (fun p : Int × Int => V.tup [.int p.1, .int p.2]) := by
    rw [List.zip_map_right, List.map_map]; rfl
  have fin2 : (ks'.zip (l'.map V.int)).map (fun p : Int × V => V.tup [.int p.1, p.2]) = (ks'.zip l').map (fun p : Int × Int => V.tup [.int p.1, .int p.2]) := by
    rw [List.zip_map_right, List.map_map]; rfl
  have b1 : sizeLine = 2 ^ 24 := by decide
  refine ES.for hh ?_
  refine EV.meth "dict" "dict.items" F.plainAttrs_dict F.slot_dict_items F.type_dict_items ?_
  walk_at "v"
  refine ⟨TypeV.idict, ?_⟩
  walk_at "v"
  refine CALL.iitems ?_
  refine ⟨_, ITER.iitems hh, fun i σ2 => ∃ u1 u2, σ2 = ⟨[(Str.ofString "target", some (.idict ks (l.map V.int))), (Str.ofString "source", some (.idict ks' (l'.map V.int))), (Str.ofString "new_callers", some (.ref a)), (Str.ofString "func", u1), (Str.ofString "caller", u2)], [], [], [(a, .idict (putAll ((ks.zip l).take i) ([], [])).1 ((putAll ((ks.zip l).take i) ([], [])).2.map V.int))]⟩, ⟨_, _, rfl⟩, ?_, ?_⟩
  · rintro i di σ2 hi ⟨u1, u2, rfl⟩
    rw [fin1, List.getElem?_map, Option.map_eq_some_iff] at hi
    obtain ⟨⟨x, y⟩, hx, rfl⟩ := hi
    walk_at "vs"
    refine ES.asgSub ?_ (by walk_at "vside")
    walk_at "vs"
    have h2 := putAll_len ((ks.zip l).take i) ([], [])
    have h3 : (ks.zip l).length ≤ ks.length := by rw [List.length_zip]; omega
    rw [List.length_take] at h2
    simp only [List.length_nil] at h2
    refine SETI.icell (by walk_at "vm") (by omega) (by walk_at "vum") ?_
    walk_at "vs"
    refine ⟨some (.int x), some (.int y), ?_⟩
    rw [take_succ_of hx, putAll_append, vput_map]
    rfl
  · rintro σ2 ⟨u1, u2, rfl⟩
    walk_at "v"
    rw [fin1, List.length_map, List.take_length]
    refine ES.for hh ?_
    refine EV.meth "dict" "dict.items" F.plainAttrs_dict F.slot_dict_items F.type_dict_items ?_
    walk_at "v"
    refine ⟨TypeV.idict, ?_⟩
    walk_at "v"
    refine CALL.iitems ?_
    refine ⟨_, ITER.iitems hh, fun i σ2 => ∃ u1 u2, σ2 = ⟨[(Str.ofString "target", some (.idict ks (l.map V.int))), (Str.ofString "source", some (.idict ks' (l'.map V.int))), (Str.ofString "new_callers", some (.ref a)), (Str.ofString "func", u1), (Str.ofString "caller", u2)], [], [], [(a, .idict (((ks'.zip l').take i).foldl addStep (putAll (ks.zip l) ([], []))).1 ((((ks'.zip l').take i).foldl addStep (putAll (ks.zip l) ([], []))).2.map V.int))]⟩, ⟨_, _, rfl⟩, ?_, ?_⟩
    · rintro i di σ2 hi ⟨u1, u2, rfl⟩
      rw [fin2, List.getElem?_map, Option.map_eq_some_iff] at hi
      obtain ⟨⟨x, y⟩, hx, rfl⟩ := hi
      have h2 := putAll_len (ks.zip l) ([], [])
      have h3 : (ks.zip l).length ≤ ks.length := by rw [List.length_zip]; omega
      have h4 := addFold_len ((ks'.zip l').take i) (putAll (ks.zip l) ([], []))
      have h5 : ((ks'.zip l').take i).length ≤ ks'.length := by rw [List.length_take, List.length_zip]; omega
      simp only [List.length_nil] at h2
      have h6 := addFold_eqlen ((ks'.zip l').take i) (putAll (ks.zip l) ([], [])) (put_eqlen _ _ rfl)
      have h7 : ((ks'.zip l').take (i + 1)).foldl addStep (putAll (ks.zip l) ([], [])) = addStep (((ks'.zip l').take i).foldl addStep (putAll (ks.zip l) ([], []))) (x, y) := by
        rw [take_succ_of hx, List.foldl_append]; rfl
      generalize ((ks'.zip l').take i).foldl addStep (putAll (ks.zip l) ([], [])) = st at *
      walk_at "vs"
      refine CMP.inIC (by walk_at "vm") ?_
      walk_at "v"
      by_cases hm : x ∈ st.1
      · rw [if_pos (by simpa using hm)]
        walk_at "vs"
        refine EV.callB (by walk_at "vg") "isinstance" (by walk_at "vbn") ?_
        walk_at "vs"
        refine CALL.isiIT ?_
        walk_at "vs"
        rw [if_neg (by decide)]
        walk_at "vs"
        obtain ⟨o, ho⟩ := Option.isSome_iff_exists.mp ((vat_some h6).trans (decide_eq_true hm))
        refine SUB.icell (d := .int o) (by walk_at "vm") (by rw [vat_map, ho]; rfl) ?_
        walk_at "vs"
        refine SETI.icell (by walk_at "vm") (by omega) (by walk_at "vum") ?_
        walk_at "vs"
        refine ⟨some (.int x), some (.int y), ?_⟩
        have e : addStep st (x, y) = (kput st.1 x, vput st.1 st.2 x (o + y)) := by
          unfold addStep; rw [if_pos hm, ho]; rfl
        rw [h7, e, vput_map]
      · rw [if_neg (by simpa using hm)]
        walk_at "vs"
        refine ES.asgSub ?_ (by walk_at "vside")
        walk_at "vs"
        refine SETI.icell (by walk_at "vm") (by omega) (by walk_at "vum") ?_
        walk_at "vs"
        refine ⟨some (.int x), some (.int y), ?_⟩
        have e : addStep st (x, y) = (kput st.1 x, vput st.1 st.2 x y) := by
          unfold addStep; rw [if_neg hm]
        rw [h7, e, vput_map]
    · rintro σ2 ⟨u1, u2, rfl⟩
      rw [fin2, List.length_map, List.take_length]
      walk_at "vs"
      refine ⟨a, _, ⟨[(Str.ofString "target", none), (Str.ofString "source", none), (Str.ofString "new_callers", none), (Str.ofString "func", none), (Str.ofString "caller", none)], [], [], []⟩, _, ⟨rfl, ⟨_, .here, .rest⟩, .drop (.drop (.drop (.drop (.drop .nil)))), .nil, rfl⟩, .ret .at, ?_⟩
      exact h
end
end
section
set_option compiler.extract_closed false
set_option maxHeartbeats 1000000


section
variable {X : Cx} {σ : St} {k : Nat} {P : V → St → Prop}
theorem sp_91 (G : G3 X) (hA : Rm X.A (k + 1 + 1)) {a1 a2 a3 a4 b1 b2 b3 b4 : Int} {ks l ks' l' : List Int} (hl : ks.length ≤ 1000000) (hl' : ks'.length ≤ 1000000) (h : P (.tup [.int (b1 + a1), .int (b2 + a2), .int (b3 + a3), .int (b4 + a4), .idict (addC ks l ks' l').1 ((addC ks l ks' l').2.map V.int)]) σ) : CALL X (.ref 91) [(.tup [.int a1, .int a2, .int a3, .int a4, .idict ks (l.map V.int)]), (.tup [.int b1, .int b2, .int b3, .int b4, .idict ks' (l'.map V.int)])] σ P := by
  refine CALL.def (ps := [Str.ofString "target", Str.ofString "source"]) (loc := [(Str.ofString "target", some ((.tup [.int a1, .int a2, .int a3, .int a4, .idict ks (l.map V.int)]))), (Str.ofString "source", some ((.tup [.int b1, .int b2, .int b3, .int b4, .idict ks' (l'.map V.int)]))), (Str.ofString "cc", none), (Str.ofString "nc", none), (Str.ofString "tt", none), (Str.ofString "ct", none), (Str.ofString "callers", none), (Str.ofString "t_cc", none), (Str.ofString "t_nc", none), (Str.ofString "t_tt", none), (Str.ofString "t_ct", none), (Str.ofString "t_callers", none)]) (cel := []) (sub := []) (rest := σ.mem) hA G.lim (G.K _ _ (o91 _).2) (cls_ne (n := "function") (by kernel_rfl)) (f91 X.w.params).2 (b91 _).2 (by kernel_rfl) ⟨90, _, _, _, rfl, G.K _ _ (o90 _).2, rfl, rfl⟩ ?_ rfl (by kernel_rfl) ⟨rfl, rfl, trivial⟩ trivial rfl ?_ (by kernel_rfl) (by kernel_rfl) (by kernel_rfl)
  · intro vs hv
    rcases vs with _ | ⟨v1, _ | ⟨v2, _ | _⟩⟩ <;> simp at hv
    kernel_rfl
  intro L
  have hR : Rm (X.callee (f91 X.w.params).1 L 91).A (k + 1) := hA.deeper
  have hh : (X.callee (f91 X.w.params).1 L 91).A.handled = none := hR.handled
  have G' : G3 (X.callee (f91 X.w.params).1 L 91) := G.callee
  walk_at "v"
  refine ES.asg ?_ (by walk_at "vside") (by walk_at "vside") (by walk_at "vside")
  walk_at "vs"
  refine ES.asg ?_ (by walk_at "vside") (by walk_at "vside") (by walk_at "vside")
  walk_at "vs"
  refine EV.callG (by walk_at "vg") 98 (by walk_at "vgn") (by decide) ?_
  walk_at "vs"
  refine sp_98 G' hR hl hl' ?_
  walk_at "vss"
  exact h
theorem sp_146 (G : G3 X) (hA : Rm X.A (k + 1 + 1)) {i : Int} (h : P (.int (if i == 0 then 0 else if i < 256 then 1 else 2)) σ) : CALL X (.ref 146) [.int i] σ P := by
  refine CALL.def (ps := [Str.ofString "symbol"]) (loc := [(Str.ofString "symbol", some (.int i)), (Str.ofString "told", none)]) (cel := []) (sub := []) (rest := σ.mem) hA G.lim (G.K _ _ (o146 _).2) (cls_ne (n := "function") (by kernel_rfl)) (f146 X.w.params).2 (b146 _).2 (by kernel_rfl) ⟨145, _, _, _, rfl, G.K _ _ (o145 _).2, rfl, rfl⟩ ?_ rfl (by kernel_rfl) ⟨rfl, trivial⟩ trivial rfl ?_ (by kernel_rfl) (by kernel_rfl) (by kernel_rfl)
  · intro vs hv
    rcases vs with _ | ⟨v1, _ | _⟩ <;> simp at hv
    kernel_rfl
  intro L
  have hR : Rm (X.callee (f146 X.w.params).1 L 146).A (k + 1) := hA.deeper
  have hh : (X.callee (f146 X.w.params).1 L 146).A.handled = none := hR.handled
  have G' : G3 (X.callee (f146 X.w.params).1 L 146) := G.callee
  walk_at "vs"
  refine EV.list ?_
  walk_at "vs"
  refine EV.callG (by walk_at "vg") 129 (by walk_at "vgn") (by decide) ?_
  walk_at "vs"
  refine sp_129 G' hR ?_
  walk_at "vs"
  refine EV.callG (by walk_at "vg") 115 (by walk_at "vgn") (by decide) ?_
  walk_at "vs"
  refine sp_115 G' hR ?_
  walk_at "vs"
  refine EV.callG (by walk_at "vg") 122 (by walk_at "vgn") (by decide) ?_
  walk_at "vs"
  refine sp_122 G' hR ?_
  walk_at "vss"
  refine EV.callB (by walk_at "vg") "all" (by walk_at "vbn") ?_
  walk_at "vs"
  refine EV.lcm (α := Bool) ?_ (by kernel_rfl) (by kernel_rfl) rfl (by intro _; rfl)
  walk_at "vs"
  refine ⟨_, [], [], [i == 0, decide (i < 256), decide (256 ≤ i)], V.bool, fun _ => .bool true, ITERC.list hh, by walk_at "vsc", Nat.le_of_ble_eq_true (by rfl), ?_, ?_⟩
  · intro C D c x hx
    walk_at "vs"
    refine EV.callB (by walk_at "vg") "isinstance" (by walk_at "vbn") ?_
    walk_at "vs"
    refine CALL.isiBB ?_
    exact ⟨rfl, by walk_at "vback"⟩
  walk_at "vs"
  refine CALL.all (l := [true, true, true]) hh ?_
  walk_at "vs"
  rw [if_neg (by decide)]
  walk_at "vs"
  refine EV.meth "list" "list.index" F.plainAttrs_list F.slot_list_index F.type_list_index ?_
  refine EV.list ?_
  walk_at "v"
  refine EV.list ?_
  walk_at "vss"
  refine EV.list ?_
  walk_at "vss"
  refine EV.list ?_
  walk_at "vss"
  refine ⟨TypeV.list, ?_⟩
  walk_at "vs"
  by_cases h0 : i = 0
  · subst h0
    refine CALL.index (f := fun d => (veq 3 d (.list [.bool true, .bool true, .bool false])).getD false) 3 hR (fun d hd => ?_) (j := 0) (by kernel_rfl) (by decide) ?_
    · simp only [List.mem_cons, List.not_mem_nil, or_false] at hd
      rcases hd with rfl | rfl | rfl <;> kernel_rfl
    walk_at "vs"
    exact h
  have e0 : (i == 0) = false := by simpa using h0
  rw [e0] at h ⊢
  by_cases h1 : i < 256
  · have e1 : decide (i < 256) = true := decide_eq_true h1
    have e2 : decide (256 ≤ i) = false := decide_eq_false (by omega)
    rw [e1, e2]
    refine CALL.index (f := fun d => (veq 3 d (.list [.bool false, .bool true, .bool false])).getD false) 3 hR (fun d hd => ?_) (j := 1) (by kernel_rfl) (by decide) ?_
    · simp only [List.mem_cons, List.not_mem_nil, or_false] at hd
      rcases hd with rfl | rfl | rfl <;> kernel_rfl
    rw [if_neg (by decide), if_pos h1] at h
    walk_at "vs"
    exact h
  · have e1 : decide (i < 256) = false := decide_eq_false h1
    have e2 : decide (256 ≤ i) = true := decide_eq_true (by omega)
    rw [e1, e2]
    refine CALL.index (f := fun d => (veq 3 d (.list [.bool false, .bool false, .bool true])).getD false) 3 hR (fun d hd => ?_) (j := 2) (by kernel_rfl) (by decide) ?_
    · simp only [List.mem_cons, List.not_mem_nil, or_false] at hd
      rcases hd with rfl | rfl | rfl <;> kernel_rfl
    rw [if_neg (by decide), if_neg h1] at h
    walk_at "vs"
    exact h
end
end
section
set_option compiler.extract_closed false
set_option maxHeartbeats 1000000


noncomputable def chRows (kinds : List Int) (tall : Nat) : List Nat := (List.range tall).filter fun i => kinds.getD i 0 == 2
noncomputable def chCols (kinds : List Int) (tall wide : Nat) : List Nat := (List.range wide).filter fun j => kinds.getD (tall + j) 0 == 1
noncomputable def chainF (kinds : List Int) (tall wide : Nat) : List Int := (List.range (chRows kinds tall).length).map fun k => ((chRows kinds tall).getD k 0 : Int) * wide + ((chCols kinds tall wide).getD ((chCols kinds tall wide).length - 1 - k) 0 : Nat)
section
variable {X : Cx} {σ : St} {k : Nat} {P : V → St → Prop}
theorem sp_161 (G : G3 X) (hA : Rm X.A (k + 1)) {kinds : List Int} {tall wide : Nat} (h1 : tall + wide = kinds.length) (h2 : kinds.length ≤ 6) (h3 : (chRows kinds tall).length ≤ (chCols kinds tall wide).length) (h : P (.list ((chainF kinds tall wide).map V.int)) σ) : CALL X (.ref 161) [(.list (kinds.map V.int)), nat tall, nat wide] σ P := by
  refine CALL.def (ps := [Str.ofString "kinds", Str.ofString "tall", Str.ofString "wide"]) (loc := []) (cel := [(Str.ofString "kinds", some (.list (kinds.map V.int))), (Str.ofString "tall", some (nat tall)), (Str.ofString "wide", some (nat wide)), (Str.ofString "rows", none), (Str.ofString "columns", none)]) (sub := []) (rest := σ.mem) hA G.lim (G.K _ _ (o161 _).2) (cls_ne (n := "function") (by kernel_rfl)) (f161 X.w.params).2 (b161 _).2 (by kernel_rfl) ⟨160, _, _, _, rfl, G.K _ _ (o160 _).2, rfl, rfl⟩ ?_ rfl (by kernel_rfl) trivial ⟨rfl, rfl, rfl, trivial⟩ rfl ?_ (by kernel_rfl) (by kernel_rfl) (by kernel_rfl)
  · intro vs hv
    rcases vs with _ | ⟨v1, _ | ⟨v2, _ | ⟨v3, _ | _⟩⟩⟩ <;> simp at hv
    kernel_rfl
  intro L
  have hR : Rm (X.callee (f161 X.w.params).1 L 161).A (k) := hA.deeper
  have hh : (X.callee (f161 X.w.params).1 L 161).A.handled = none := hR.handled
  have G' : G3 (X.callee (f161 X.w.params).1 L 161) := G.callee
  have sl : sizeLine = 2 ^ 24 := by decide
  have ht6 : tall ≤ 6 := Nat.le_trans (Nat.le_add_right tall wide) (by omega)
  have hw6 : wide ≤ 6 := Nat.le_trans (Nat.le_add_left wide tall) (by omega)
  walk_at "vs"
  refine EV.lcf (α := Nat) ?_ (by kernel_rfl) (by kernel_rfl) rfl (by intro _; rfl)
  refine EV.callT (by walk_at "vg") "range" (by walk_at "vbn") ?_
  walk_at "vs"
  refine CALL.range ?_
  refine ⟨_, [], _, List.range tall, nat, nat, fun i => kinds.getD i 0 == 2, ITERC.rngN hh (Nat.le_trans ht6 (by decide)), by walk_at "vsc", by rw [List.length_range]; exact le_sl ht6, ?_, ?_⟩
  · intro C D c i hi
    have hi := List.mem_range.mp hi
    walk_at "vs"
    refine SUB.li i 0 rfl (by omega) (by omega) ?_
    walk_at "vs"
    refine ⟨rfl, ?_⟩
    split
    · walk_at "vs"
      exact ⟨rfl, by walk_at "vback"⟩
    · walk_at "vback"
  rw [show (List.filter (fun i => kinds.getD i 0 == 2) (List.range tall)) = chRows kinds tall from rfl]
  walk_at "vs"
  refine EV.lcf (α := Nat) ?_ (by kernel_rfl) (by kernel_rfl) rfl (by intro _; rfl)
  refine EV.callT (by walk_at "vg") "range" (by walk_at "vbn") ?_
  walk_at "vs"
  refine CALL.range ?_
  refine ⟨_, [], _, List.range wide, nat, nat, fun j => kinds.getD (tall + j) 0 == 1, ITERC.rngN hh (Nat.le_trans hw6 (by decide)), by walk_at "vsc", by rw [List.length_range]; exact le_sl hw6, ?_, ?_⟩
  · intro C D c i hi
    have hi := List.mem_range.mp hi
    walk_at "vs"
    refine SUB.li (tall + i) 0 (by simp) (by omega) (by omega) ?_
    walk_at "vs"
    refine ⟨rfl, ?_⟩
    split
    · walk_at "vs"
      exact ⟨rfl, by walk_at "vback"⟩
    · walk_at "vback"
  rw [show (List.filter (fun j => kinds.getD (tall + j) 0 == 1) (List.range wide)) = chCols kinds tall wide from rfl]
  have r1 : (chRows kinds tall).length ≤ tall := by unfold chRows; exact Nat.le_trans (List.length_filter_le ..) (by simp)
  have r2 : (chCols kinds tall wide).length ≤ wide := by unfold chCols; exact Nat.le_trans (List.length_filter_le ..) (by simp)
  have r3 : ∀ i ∈ chRows kinds tall, i < tall := fun i hi => by unfold chRows at hi; exact List.mem_range.mp (List.mem_filter.mp hi).1
  walk_at "vs"
  refine EV.lcm (α := Nat) ?_ (by kernel_rfl) (by kernel_rfl) rfl (by intro _; rfl)
  refine EV.callT (by walk_at "vg") "range" (by walk_at "vbn") ?_
  walk_at "vs"
  refine EV.callB (by walk_at "vg") "len" (by walk_at "vbn") ?_
  walk_at "vs"
  have r6 : (chRows kinds tall).length ≤ 6 := Nat.le_trans (by unfold chRows; exact Nat.le_trans (List.length_filter_le ..) (Nat.le_of_eq List.length_range)) ht6
  have c6 : (chCols kinds tall wide).length ≤ 6 := Nat.le_trans r2 hw6
  refine CALL.lenL (by rw [List.length_map]; exact le_sl r6) ?_
  walk_at "vs"
  rw [List.length_map]
  refine CALL.range ?_
  refine ⟨_, [], _, List.range (chRows kinds tall).length, nat, fun k => .int (((chRows kinds tall).getD k 0 : Int) * wide + ((chCols kinds tall wide).getD ((chCols kinds tall wide).length - 1 - k) 0 : Nat)), ITERC.rngN hh (Nat.le_trans r6 (by decide)), by walk_at "vsc", by rw [List.length_range]; exact le_sl r6, ?_, ?_⟩
  · intro C D c i hi
    have hi := List.mem_range.mp hi
    have hb : (chRows kinds tall).getD i 0 < tall := by
      have : (chRows kinds tall).getD i 0 = (chRows kinds tall)[i] := by simp [hi]
      rw [this]; exact r3 _ (List.getElem_mem hi)
    walk_at "vs"
    refine SUB.li i 0 rfl hi (le_sl r6) ?_
    walk_at "vs"
    refine BIN.mul ?_ (int_64 (Nat.le_trans (Nat.le_of_lt hb) ht6))
    walk_at "vs"
    refine SUB.lneg i 0 rfl (by omega) (le_sl c6) ?_
    walk_at "vs"
    exact ⟨rfl, by walk_at "vback"⟩
  walk_at "vs"
  unfold chainF at h
  rw [List.map_map] at h
  exact h
end
end
section
set_option compiler.extract_closed false
set_option maxHeartbeats 1000000


noncomputable def o80 (P : Params) : { o : Obj // (K3 P).lookup 80 = some o } := ⟨k80 P, by kernel_rfl⟩
noncomputable def o79 (P : Params) : { o : Obj // (K3 P).lookup 79 = some o } := ⟨k79 P, by kernel_rfl⟩
noncomputable def es79 (P : Params) : { e : Array DictEntry × Nat // (o79 P).1.data = .dict e.1 e.2 } := ⟨(_, _), rfl⟩
noncomputable def K80 (P : Params) : Frag := [(80, (o80 P).1), (79, (o79 P).1), (70, (o70 P).1)]
theorem strKeys_of {es : Array DictEntry} (h : es.toList.all (fun e => match e.key with | .str _ _ => true | _ => false) = true) : StrKeys es := fun e he => by
  have := List.all_eq_true.mp h e (by simpa using he)
  split at this
  · rename_i n t ht; exact ⟨n, t, ht⟩
  · cases this
theorem c80 (P : Params) : ∃ nm q bs sn sub col dd k0 k1 k2 k3 k5, (o80 P).1 = excClassObj nm q 80 79 bs [.type "object"] true sn sub false col dd k0 k1 k2 k3 k5 "object.__new__" := ⟨_, _, _, _, _, _, _, _, _, _, _, _, rfl⟩
noncomputable def mN80 (P : Params) : Str → Option Value := nsFind (es79 P).1.1
section
variable {X : Cx} {σ : St} {k : Nat} {P : V → St → Prop}
theorem cls80 (G : G3 X) : ClsX X 80 79 (mN80 X.w.params) := by
  refine ⟨⟨?_, ?_⟩, fun o ho => ?_⟩
  · obtain ⟨nm, q, bs, sn, sub, col, dd, k0, k1, k2, k3, k5, e⟩ := c80 X.w.params
    exact ⟨nm, q, bs, sn, sub, col, dd, k0, k1, k2, k3, k5, by rw [← e]; exact G.K _ _ (o80 _).2⟩
  · exact ⟨_, _, _, G.K _ _ (o79 _).2, (es79 _).2, strKeys_of (by kernel_rfl), fun _ => rfl⟩
  · have := G.K _ _ (o80 X.w.params).2
    rw [ho] at this; cases this
    exact cls_ne (n := "type") (by kernel_rfl)
theorem kin80 (G : G3 X) : KIn X (K80 X.w.params) := fun a o h => by
  unfold K80 at h
  simp only [List.lookup_cons, List.lookup_nil] at h
  split at h
  · rename_i e; rw [eq_of_beq e]; cases h; exact ⟨G.K _ _ (o80 _).2, cls_ne (n := "type") (by kernel_rfl)⟩
  · split at h
    · rename_i e; rw [eq_of_beq e]; cases h; exact ⟨G.K _ _ (o79 _).2, cls_ne (n := "dict") (by kernel_rfl)⟩
    · split at h
      · rename_i e; rw [eq_of_beq e]; cases h; exact ⟨G.K _ _ (o70 _).2, cls_ne (n := "function") (by kernel_rfl)⟩
      · cases h
theorem sp_70 (G : G3 X) (hA : Rm X.A (k + 1)) {x dx : Addr} {d : V} {m : List (Addr × Cell)} (hm : σ.mem = m ++ [(x, Cell.raw (· = instObj 80 dx)), (dx, Cell.ns [])]) (h : P .none { σ with mem := m ++ [(x, Cell.raw (· = instObj 80 dx)), (dx, Cell.ns [(Str.ofString "comp_select_list", d)])] })  : CALLR X (.ref 70) [.ref x, d] σ P := by
  refine CALLR.def (ps := [Str.ofString "self", Str.ofString "comp_select_list"]) (loc := [(Str.ofString "self", some (.ref x)), (Str.ofString "comp_select_list", some (d))]) (cel := []) (sub := m ++ [(x, Cell.raw (· = instObj 80 dx)), (dx, Cell.ns [])]) (rest := []) hA G.lim (G.K _ _ (o70 _).2) (cls_ne (n := "function") (by kernel_rfl)) (f70 X.w.params).2 (b70 _).2 (by kernel_rfl) ⟨69, _, _, _, rfl, G.K _ _ (o69 _).2, rfl, rfl⟩ ?_ rfl (by kernel_rfl) ⟨rfl, rfl, trivial⟩ trivial (by rw [hm, List.append_nil]) ?_ (by kernel_rfl) (by kernel_rfl) (by kernel_rfl)
  · intro vs hv
    rcases vs with _ | ⟨v1, _ | ⟨v2, _ | _⟩⟩ <;> simp at hv
    kernel_rfl
  intro L
  have hR : Rm (X.callee (f70 X.w.params).1 L 70).A (k) := hA.deeper
  have hh : (X.callee (f70 X.w.params).1 L 70).A.handled = none := hR.handled
  have G' : G3 (X.callee (f70 X.w.params).1 L 70) := G.callee
  walk_at "v"
  refine ES.asgAttr ?_ (by walk_at "vside")
  walk_at "vs"
  refine ⟨x, rfl, ?_⟩
  refine SETA.inst 80 79 _ (cls80 G') (by kernel_rfl) (by kernel_rfl) (by rw [typeLookup_type, builtinLookup_eq_fast]; kernel_rfl) (by walk_at "vm") (by walk_at "vm") .new (by walk_at "vum") (by decide) ?_
  walk_at "vs"
  simpa [retV] using h
noncomputable def csV (p : Nat × Int) : V := .tup [nat p.1, .int p.2]
noncomputable abbrev tup2 (l : Int × Int) : V := .tup [.int l.1, .int l.2]
noncomputable def pick2 (l : Int × Int) (i : Nat) : Int := if i = 0 then l.1 else l.2
noncomputable def cmpF : List (Nat × Int) → Int × Int → Int × Int → Int
  | [], _, _ => 0
  | p :: cs, l, r => if pick2 l p.1 < pick2 r p.1 then -p.2 else if pick2 r p.1 < pick2 l p.1 then p.2 else cmpF cs l r
theorem SUB.t2 {l : Int × Int} {i : Nat} (hi : i < 2) (h : P (.int (pick2 l i)) σ) : SUB X (tup2 l) (nat i) σ P := by
  unfold pick2 at h
  match i, hi with
  | 0, _ => exact SUB.ti 0 (d := .int l.1) rfl rfl (Nat.le_of_ble_eq_true rfl) h
  | 1, _ => exact SUB.ti 1 (d := .int l.2) rfl rfl (Nat.le_of_ble_eq_true rfl) h
theorem sp_77 (G : G3 X) (hA : Rm X.A (k + 1)) {x dx : Addr} {cs : List (Nat × Int)} {l r : Int × Int} (hcs : ∀ p ∈ cs, p.1 < 2) (hx : (x, Cell.raw (· = instObj 80 dx)) ∈ σ.mem) (hd : (dx, Cell.ns [(Str.ofString "comp_select_list", V.list (cs.map csV))]) ∈ σ.mem) (h : P (.int (cmpF cs l r)) σ) : CALL X (.ref 77) [.ref x, tup2 l, tup2 r] σ P := by
  refine CALL.def (ps := [Str.ofString "self", Str.ofString "left", Str.ofString "right"]) (loc := [(Str.ofString "self", some (.ref x)), (Str.ofString "left", some (tup2 l)), (Str.ofString "right", some (tup2 r)), (Str.ofString "index", none), (Str.ofString "direction", none), (Str.ofString "l", none), (Str.ofString "r", none)]) (cel := []) (sub := σ.mem) (rest := []) hA G.lim (G.K _ _ (o77 _).2) (cls_ne (n := "function") (by kernel_rfl)) (f77 X.w.params).2 (b77 _).2 (by kernel_rfl) ⟨76, _, _, _, rfl, G.K _ _ (o76 _).2, rfl, rfl⟩ ?_ rfl (by kernel_rfl) ⟨rfl, rfl, rfl, trivial⟩ trivial (List.append_nil _).symm ?_ (by kernel_rfl) (by kernel_rfl) (by kernel_rfl)
  · intro vs hv
    rcases vs with _ | ⟨v1, _ | ⟨v2, _ | ⟨v3, _ | _⟩⟩⟩ <;> simp at hv
    kernel_rfl
  intro L
  have hR : Rm (X.callee (f77 X.w.params).1 L 77).A (k) := hA.deeper
  have hh : (X.callee (f77 X.w.params).1 L 77).A.handled = none := hR.handled
  have G' : G3 (X.callee (f77 X.w.params).1 L 77) := G.callee
  walk_at "v"
  refine ES.for hh ?_
  refine EV.attrI 80 79 _ (cls80 G') (by kernel_rfl) (by kernel_rfl) (by rw [typeLookup_type, builtinLookup_eq_fast]; kernel_rfl) ?_
  walk_at "vs"
  refine ⟨x, dx, _, _, rfl, hx, hd, mem_hd, (fun Z v hv => ?_), ?_⟩
  · obtain ⟨a, its, n, rfl, _⟩ := hv; rfl
  refine ⟨_, ITER.list hh, fun i σ2 => cmpF (cs.drop i) l r = cmpF cs l r ∧ ∃ a b c e, σ2 = ⟨[(Str.ofString "self", some (V.ref x)), (Str.ofString "left", some (tup2 l)), (Str.ofString "right", some (tup2 r)), (Str.ofString "index", a), (Str.ofString "direction", b), (Str.ofString "l", c), (Str.ofString "r", e)], [], [], σ.mem⟩, ⟨rfl, _, _, _, _, rfl⟩, ?_, ?_⟩
  · rintro i di σ2 hi ⟨hinv, a, b, c, e, rfl⟩
    rw [List.getElem?_map, Option.map_eq_some_iff] at hi
    obtain ⟨p, hp, rfl⟩ := hi
    have h2 := hcs p (List.mem_of_getElem? hp)
    have hdr : cs.drop i = p :: cs.drop (i + 1) := by
      obtain ⟨hlt, e⟩ := List.getElem?_eq_some_iff.mp hp
      rw [List.drop_eq_getElem_cons hlt, e]
    have e0 : cmpF (p :: cs.drop (i + 1)) l r = if pick2 l p.1 < pick2 r p.1 then -p.2 else if pick2 r p.1 < pick2 l p.1 then p.2 else cmpF (cs.drop (i + 1)) l r := rfl
    rw [hdr, e0] at hinv
    unfold csV
    walk_at "vs"
    refine SUB.t2 h2 ?_
    walk_at "vs"
    refine SUB.t2 h2 ?_
    walk_at "vs"
    by_cases h3 : pick2 l p.1 < pick2 r p.1
    · rw [if_pos (decide_eq_true h3)]
      rw [if_pos h3] at hinv
      walk_at "vs"
      rw [hinv]; simpa [retV] using h
    · rw [if_neg (by simpa using h3)]
      rw [if_neg h3] at hinv
      walk_at "vs"
      by_cases h4 : pick2 r p.1 < pick2 l p.1
      · rw [if_pos (decide_eq_true h4)]
        rw [if_pos h4] at hinv
        walk_at "vs"
        rw [hinv]; simpa [retV] using h
      · rw [if_neg (by simpa using h4)]
        rw [if_neg h4] at hinv
        walk_at "vs"
        exact ⟨hinv, _, _, _, _, rfl⟩
  · rintro σ2 ⟨hinv, a, b, c, e, rfl⟩
    walk_at "vs"
    rw [List.length_map, List.drop_length] at hinv
    rw [← hinv] at h
    simpa [retV, cmpF] using h
end
end
section
set_option compiler.extract_closed false
set_option maxHeartbeats 1000000


noncomputable def spotsF (tall wide : Nat) : List (Int × Int) := (List.range tall).flatMap fun (i : Nat) => (List.range wide).map fun (j : Nat) => ((wide : Int) - (j : Int), (i : Int))
noncomputable def relF (a b : Int × Int) : Str :=
  let t := [cmpF [(1, 1), (0, -1)] a b, cmpF [(0, -1), (1, 1)] a b]
  if t == [0, 0] then Str.ofString "=" else if t == [-1, -1] then Str.ofString "<" else if t == [1, 1] then Str.ofString ">" else Str.ofString ""
noncomputable def tableF (tall wide : Nat) : List (List Str) := (spotsF tall wide).map fun a => (spotsF tall wide).map (relF a)
theorem veq_ints : ∀ (l l' : List Int), veq 2 (.list (l.map V.int)) (.list (l'.map V.int)) = some (l == l') := by
  intro l l'
  have key : ∀ (l l' : List Int), l.length = l'.length → allO (List.zipWith (veq 1) (l.map V.int) (l'.map V.int)) = some (l == l') := by
    intro l
    induction l with
    | nil => intro l' h; cases l' with | nil => rfl | cons b l' => simp at h
    | cons a l ih =>
      intro l' h
      cases l' with
      | nil => simp at h
      | cons b l' =>
        have := ih l' (by simpa using h)
        show (match some (a == b), allO (List.zipWith (veq 1) (l.map V.int) (l'.map V.int)) with | some a, some b => some (a && b) | _, _ => none) = _
        rw [this]; rfl
  show (if (l.map V.int).length == (l'.map V.int).length then allO (List.zipWith (veq 1) (l.map V.int) (l'.map V.int)) else some false) = _
  simp only [List.length_map]
  split
  · rename_i h; exact key l l' (eq_of_beq h)
  · rename_i h
    congr 1
    symm
    rw [beq_eq_false_iff_ne]
    rintro rfl
    simp at h
section
variable {X : Cx} {σ : St} {k : Nat} {P : V → St → Prop}
theorem mk80 (G : G3 X) (hA : Rm X.A (k + 1 + 1)) {d : V} (h : ∀ x dx, P (.ref x) { σ with mem := σ.mem ++ [(x, Cell.raw (· = instObj 80 dx)), (dx, Cell.ns [(Str.ofString "comp_select_list", d)])] }) : CALL X (.ref 80) [d] σ P := by
  refine CALL.make (fI := 70) (kin80 G) (by kernel_rfl) (by kernel_rfl) (by kernel_rfl) hA fun A' x dx hA' => ?_
  have G' : G3 (X.at A') := ⟨G.K0, G.lim, G.b, G.g⟩
  exact sp_70 (m := σ.mem) G' hA' rfl ⟨rfl, h x dx⟩
theorem EV.call80 (G : G3 X) {x p1 args pos} (hx : (x, V.ref 80) ∈ GN) (h : EVs X pos args σ fun ds σ2 => CALL X (.ref 80) ds σ2 P)
    (hg : X.env.globals = mainGlobals := by rfl) (hk : X.env.kindOf x = some .globalImplicit := by kernel_rfl) (hd : (x == ("__debug__" : Str)) = false := by kernel_rfl)
    (hp : ∀ env, (starEach args env).any (·.1) = false := by intro _; rfl)
    (he : ∀ env, eval (.Call (.Name x p1) args [] pos) env = (do callWith pos (← eval (.Name x p1) env) [] (backTo pos (starEach args env)) (backToKw pos (keywordEach [] env))) := by intro _; rfl) : EV X (.Call (.Name x p1) args [] pos) σ P :=
  EV.call (G.name hx ⟨.ref 80, fun _ _ h => h, J.mono h fun ds σ2 hc => ⟨Keep.cls (kin80 G) (by kernel_rfl), hc⟩⟩ hg hk hd) hp he
theorem sp_151 (G : G3 X) (hA : Rm X.A (k + 1 + 1 + 1)) {tall wide : Nat} (hb : tall ≤ 6 ∧ wide ≤ 6) (h : P (.list ((tableF tall wide).map fun r => .list (r.map V.str))) σ) : CALL X (.ref 151) [nat tall, nat wide] σ P := by
  refine CALL.def (ps := [Str.ofString "tall", Str.ofString "wide"]) (loc := [(Str.ofString "tall", some (nat tall)), (Str.ofString "spots", none), (Str.ofString "table", none), (Str.ofString "comps", none), (Str.ofString "told", none)]) (cel := [(Str.ofString "wide", some (nat wide)), (Str.ofString "one", none), (Str.ofString "other", none)]) (sub := []) (rest := σ.mem) hA G.lim (G.K _ _ (o151 _).2) (cls_ne (n := "function") (by kernel_rfl)) (f151 X.w.params).2 (b151 _).2 (by kernel_rfl) ⟨150, _, _, _, rfl, G.K _ _ (o150 _).2, rfl, rfl⟩ ?_ rfl (by kernel_rfl) ⟨rfl, trivial⟩ ⟨rfl, trivial⟩ rfl ?_ (by kernel_rfl) (by kernel_rfl) (by kernel_rfl)
  · intro vs hv
    rcases vs with _ | ⟨v1, _ | ⟨v2, _ | _⟩⟩ <;> simp at hv
    kernel_rfl
  intro L
  have hR : Rm (X.callee (f151 X.w.params).1 L 151).A (k + 1 + 1) := hA.deeper
  have hh : (X.callee (f151 X.w.params).1 L 151).A.handled = none := hR.handled
  have G' : G3 (X.callee (f151 X.w.params).1 L 151) := G.callee
  refine EX.drop ?_
  refine EX.frz ?_
  have sl : sizeLine = 2 ^ 24 := by decide
  have hR1 := hR.le (k' := k + 1) (by omega)
  walk_at "v"
  refine ES.asgSw hh ?_ (by walk_at "vside") (by walk_at "vside")
  walk_at "v"
  walk_at "v"
  refine EV.lc2 (α := Nat) (β := Nat) ?_ (by kernel_rfl) (by kernel_rfl) rfl (by intro _; rfl)
  refine EV.callT (by walk_at "vg") "range" (by walk_at "vbn") ?_
  walk_at "vs"
  refine CALL.range ?_
  refine ⟨_, [], _, List.range tall, nat, fun _ => List.range wide, nat, fun i j => tup2 ((wide : Int) - (j : Int), (i : Int)), ITERC.rngN hh (by omega), by walk_at "vsc", ?_, ?_, ?_⟩
  · have e : ((List.range tall).flatMap fun x => (List.range wide).map ((fun (i j : Nat) => tup2 ((wide : Int) - (j : Int), (i : Int))) x)).length = tall * wide := by
      rw [List.length_flatMap]
      simp [List.map_const', List.sum_replicate_nat]
    rw [e]
    have := Nat.mul_le_mul hb.1 hb.2
    omega
  · intro C D c i hi
    walk_at "vs"
    refine ⟨by walk_at "vback", ?_, ?_⟩
    · refine EV.callT (by walk_at "vg") "range" (by walk_at "vbn") ?_
      walk_at "vs"
      refine CALL.range ?_
      exact ⟨ITERC.rngN hh (by omega), Back.refl _⟩
    · intro y hy c'
      walk_at "vss"
      exact ⟨rfl, by walk_at "vback"⟩
  have esp : ((List.range tall).flatMap fun x => (List.range wide).map ((fun (i j : Nat) => tup2 ((wide : Int) - (j : Int), (i : Int))) x)) = (spotsF tall wide).map tup2 := by
    unfold spotsF
    rw [List.map_flatMap]
    congr 1
    funext i
    rw [List.map_map]; rfl
  rw [esp]
  have lsp : (spotsF tall wide).length = tall * wide := by
    unfold spotsF
    rw [List.length_flatMap]
    simp [List.map_const', List.sum_replicate_nat]
  have lsp2 := Nat.mul_le_mul hb.1 hb.2
  walk_at "v"
  refine EV.listM ?_
  walk_at "vss"
  intro tb
  walk_at "vss"
  refine ⟨_, rfl, rfl, ?_⟩
  dsimp only [List.reverse_cons, List.reverse_nil, List.nil_append, List.append_nil, List.cons_append]
  refine SNs.cons ?_
  walk_at "v"
  refine SNs.cons ?_
  walk_at "v"
  refine SNs.nil ?_
  walk_at "vs"
  refine EV.list ?_
  walk_at "v"
  refine EV.call80 (by walk_at "vg") (by walk_at "vgn") ?_
  walk_at "v"
  refine EV.list ?_
  walk_at "vss"
  refine mk80 (k := k) (d := .list (([(1, 1), (0, -1)] : List (Nat × Int)).map csV)) G' hR fun x1 d1 => ?_
  walk_at "v"
  refine EV.call80 (by walk_at "vg") (by walk_at "vgn") ?_
  walk_at "v"
  refine EV.list ?_
  walk_at "vss"
  refine mk80 (k := k) (d := .list (([(0, -1), (1, 1)] : List (Nat × Int)).map csV)) G' hR fun x2 d2 => ?_
  walk_at "vss"
  dsimp only [List.cons_append, List.nil_append]
  refine ES.for hh ?_
  walk_at "vs"
  refine ⟨_, ITER.list hh, fun i σ2 => ∃ u1 u2 u3, σ2 = ⟨[(Str.ofString "tall", some (nat tall)), (Str.ofString "spots", some (V.list ((spotsF tall wide).map tup2))), (Str.ofString "table", some (V.ref tb)), (Str.ofString "comps", some (V.list [V.ref x1, V.ref x2])), (Str.ofString "told", u1)], [(Str.ofString "wide", some (nat wide)), (Str.ofString "one", u2), (Str.ofString "other", u3)], [], [(tb, Cell.list (((spotsF tall wide).take i).map fun a => V.list (((spotsF tall wide).map (relF a)).map V.str))), (x1, Cell.raw (· = instObj 80 d1)), (d1, Cell.ns [(Str.ofString "comp_select_list", V.list (([(1, 1), (0, -1)] : List (Nat × Int)).map csV))]), (x2, Cell.raw (· = instObj 80 d2)), (d2, Cell.ns [(Str.ofString "comp_select_list", V.list (([(0, -1), (1, 1)] : List (Nat × Int)).map csV))])]⟩, ⟨_, _, _, rfl⟩, ?_, ?_⟩
  · rintro i di σ2 hi ⟨u1, u2, u3, rfl⟩
    rw [List.getElem?_map, Option.map_eq_some_iff] at hi
    obtain ⟨a, ha, rfl⟩ := hi
    refine AS.cel (by walk_at "vu") ?_
    refine fun _ _ => ?_
    refine EX.frz ?_
    walk_at "v"
    walk_at "v"
    refine EV.meth "list" "list.append" F.plainAttrs_list F.slot_list_append F.type_list_append ?_
    walk_at "v"
    refine ⟨TypeV.cell (by walk_at "vm"), ?_⟩
    walk_at "v"
    refine EV.listM ?_
    walk_at "vss"
    intro rb
    walk_at "v"
    dsimp only [List.cons_append, List.nil_append]
    have hlen : ((spotsF tall wide).take i).length ≤ 36 := by rw [List.length_take, lsp]; omega
    refine CALL.append (by walk_at "vm") (by walk_at "vum") ?_ (by rw [List.length_map]; omega)
    walk_at "v"
    refine ES.for hh ?_
    walk_at "vs"
    refine ⟨_, ITER.list hh, fun j σ2 => ∃ u1 u3, σ2 = ⟨[(Str.ofString "tall", some (nat tall)), (Str.ofString "spots", some (V.list ((spotsF tall wide).map tup2))), (Str.ofString "table", some (V.ref tb)), (Str.ofString "comps", some (V.list [V.ref x1, V.ref x2])), (Str.ofString "told", u1)], [(Str.ofString "wide", some (nat wide)), (Str.ofString "one", some (tup2 a)), (Str.ofString "other", u3)], [], [(tb, Cell.list ((((spotsF tall wide).take i).map fun a => V.list (((spotsF tall wide).map (relF a)).map V.str)) ++ [V.ref rb])), (x1, Cell.raw (· = instObj 80 d1)), (d1, Cell.ns [(Str.ofString "comp_select_list", V.list (([(1, 1), (0, -1)] : List (Nat × Int)).map csV))]), (x2, Cell.raw (· = instObj 80 d2)), (d2, Cell.ns [(Str.ofString "comp_select_list", V.list (([(0, -1), (1, 1)] : List (Nat × Int)).map csV))]), (rb, Cell.list ((((spotsF tall wide).take j).map (relF a)).map V.str))]⟩, ⟨_, _, rfl⟩, ?_, ?_⟩
    · rintro j dj σ2 hj ⟨v1, v3, rfl⟩
      rw [List.getElem?_map, Option.map_eq_some_iff] at hj
      obtain ⟨b, hb', rfl⟩ := hj
      refine AS.cel (by walk_at "vu") ?_
      walk_at "v"
      refine ES.asgLC ?_ (by walk_at "vside") (by walk_at "vside")
      refine CVG.lcm (α := List (Nat × Int) × Addr × Addr) ?_ (by kernel_rfl) (by kernel_rfl) rfl (by intro _; rfl)
      walk_at "vs"
      refine ⟨_, [], _, [([(1, 1), (0, -1)], x1, d1), ([(0, -1), (1, 1)], x2, d2)], fun t => .ref t.2.1, fun t => .int (cmpF t.1 a b), ITERC.list hh, by walk_at "vsc", Nat.le_of_ble_eq_true (by rfl), ?_, ?_⟩
      · intro C D c t ht
        walk_at "vs"
        refine EV.methU (y := Option.none) 80 79 _ 77 (cls80 G'.comp) (by kernel_rfl) (by kernel_rfl) (by kernel_rfl) (G.K _ _ (o77 _).2) (by kernel_rfl) (by rw [typeLookup_type, builtinLookup_eq_fast]; kernel_rfl) ?_
        walk_at "vs"
        simp only [List.mem_cons, List.not_mem_nil, or_false] at ht
        rcases ht with rfl | rfl
        · refine ⟨x1, d1, _, rfl, by walk_at "vm", by walk_at "vm", by decide +kernel, ?_⟩
          walk_at "vs"
          refine ⟨Keep.func (G.K _ _ (o77 _).2) (f77 _).2 (cls_ne (n := "function") (by kernel_rfl)), ?_⟩
          refine sp_77 (k := k + 1) (x := x1) (dx := d1) (cs := [(1, 1), (0, -1)]) (l := a) (r := b) G'.comp hR (by decide) (by walk_at "vm") (by walk_at "vm") ?_
          exact ⟨rfl, by walk_at "vback"⟩
        · refine ⟨x2, d2, _, rfl, by walk_at "vm", by walk_at "vm", by decide +kernel, ?_⟩
          walk_at "vs"
          refine ⟨Keep.func (G.K _ _ (o77 _).2) (f77 _).2 (cls_ne (n := "function") (by kernel_rfl)), ?_⟩
          refine sp_77 (k := k + 1) (x := x2) (dx := d2) (cs := [(0, -1), (1, 1)]) (l := a) (r := b) G'.comp hR (by decide) (by walk_at "vm") (by walk_at "vm") ?_
          exact ⟨rfl, by walk_at "vback"⟩
      have hrel : relF a b = if ([cmpF [(1, 1), (0, -1)] a b, cmpF [(0, -1), (1, 1)] a b] == [0, 0]) = true then Str.ofString "=" else if ([cmpF [(1, 1), (0, -1)] a b, cmpF [(0, -1), (1, 1)] a b] == [-1, -1]) = true then Str.ofString "<" else if ([cmpF [(1, 1), (0, -1)] a b, cmpF [(0, -1), (1, 1)] a b] == [1, 1]) = true then Str.ofString ">" else Str.ofString "" := rfl
      have ec : (List.map (fun t : List (Nat × Int) × Addr × Addr => V.int (cmpF t.1 a b)) [([(1, 1), (0, -1)], x1, d1), ([(0, -1), (1, 1)], x2, d2)]) = [V.int (cmpF [(1, 1), (0, -1)] a b), V.int (cmpF [(0, -1), (1, 1)] a b)] := rfl
      rw [ec]
      generalize cmpF [(1, 1), (0, -1)] a b = c1 at hrel ⊢
      generalize cmpF [(0, -1), (1, 1)] a b = c2 at hrel ⊢
      walk_at "vs"
      refine EV.meth "list" "list.append" F.plainAttrs_list F.slot_list_append F.type_list_append ?_
      walk_at "vs"
      refine SUB.lcellLast (by walk_at "vm") ?_
      refine ⟨TypeV.cell (by walk_at "vm"), ?_⟩
      walk_at "vs"
      refine EV.list ?_
      walk_at "vss"
      refine CMP.eqv (b := [c1, c2] == [0, 0]) 2 hR (veq_ints [c1, c2] [0, 0]) ?_
      walk_at "vs"
      by_cases h1 : ([c1, c2] == [0, 0]) = true
      · rw [if_pos h1] at hrel ⊢
        walk_at "vs"
        refine CALL.append (by walk_at "vm") (by walk_at "vum") ?_ (by rw [List.length_map, List.length_map, List.length_take, lsp]; omega)
        walk_at "vs"
        refine ⟨some (V.list [V.int c1, V.int c2]), some (tup2 b), ?_⟩
        rw [take_succ_of hb', List.map_append, List.map_append, ← hrel]
        rfl
      · rw [if_neg h1] at hrel ⊢
        walk_at "vs"
        refine EV.list ?_
        walk_at "vss"
        refine CMP.eqv (b := [c1, c2] == [-1, -1]) 2 hR (veq_ints [c1, c2] [-1, -1]) ?_
        walk_at "vs"
        by_cases h2 : ([c1, c2] == [-1, -1]) = true
        · rw [if_pos h2] at hrel ⊢
          walk_at "vs"
          refine CALL.append (by walk_at "vm") (by walk_at "vum") ?_ (by rw [List.length_map, List.length_map, List.length_take, lsp]; omega)
          walk_at "vs"
          refine ⟨some (V.list [V.int c1, V.int c2]), some (tup2 b), ?_⟩
          rw [take_succ_of hb', List.map_append, List.map_append, ← hrel]
          rfl
        · rw [if_neg h2] at hrel ⊢
          walk_at "vs"
          refine EV.list ?_
          walk_at "vss"
          refine CMP.eqv (b := [c1, c2] == [1, 1]) 2 hR (veq_ints [c1, c2] [1, 1]) ?_
          walk_at "vs"
          by_cases h3 : ([c1, c2] == [1, 1]) = true
          · rw [if_pos h3] at hrel ⊢
            walk_at "vs"
            refine CALL.append (by walk_at "vm") (by walk_at "vum") ?_ (by rw [List.length_map, List.length_map, List.length_take, lsp]; omega)
            walk_at "vs"
            refine ⟨some (V.list [V.int c1, V.int c2]), some (tup2 b), ?_⟩
            rw [take_succ_of hb', List.map_append, List.map_append, ← hrel]
            rfl
          · rw [if_neg h3] at hrel ⊢
            walk_at "vs"
            refine CALL.append (by walk_at "vm") (by walk_at "vum") ?_ (by rw [List.length_map, List.length_map, List.length_take, lsp]; omega)
            walk_at "vs"
            refine ⟨some (V.list [V.int c1, V.int c2]), some (tup2 b), ?_⟩
            rw [take_succ_of hb', List.map_append, List.map_append, ← hrel]
            rfl
    · rintro σ2 ⟨v1, v3, rfl⟩
      walk_at "vs"
      rw [List.length_map, List.take_length]
      refine ⟨rb, _, ⟨[(Str.ofString "tall", some (nat tall)), (Str.ofString "spots", some (V.list ((spotsF tall wide).map tup2))), (Str.ofString "table", some (V.ref tb)), (Str.ofString "comps", some (V.list [V.ref x1, V.ref x2])), (Str.ofString "told", v1)], [(Str.ofString "wide", some (nat wide)), (Str.ofString "one", some (tup2 a)), (Str.ofString "other", v3)], [], [(tb, Cell.list ((((spotsF tall wide).take i).map fun a => V.list (((spotsF tall wide).map (relF a)).map V.str)) ++ [V.list (((spotsF tall wide).map (relF a)).map V.str)])), (x1, Cell.raw (· = instObj 80 d1)), (d1, Cell.ns [(Str.ofString "comp_select_list", V.list (([(1, 1), (0, -1)] : List (Nat × Int)).map csV))]), (x2, Cell.raw (· = instObj 80 d2)), (d2, Cell.ns [(Str.ofString "comp_select_list", V.list (([(0, -1), (1, 1)] : List (Nat × Int)).map csV))])]⟩, .next, ⟨rfl, ⟨_, .tail (.tail (.tail (.tail (.tail .here)))), .list (FzL.append (FzL.refl _) (.cons .at .nil)) .rest⟩, .same (.same (.same (.same (.same .nil)))), .same (.same (.same .nil)), rfl⟩, .same, ?_⟩
      walk_at "vs"
      refine ⟨v1, some (tup2 a), v3, ?_⟩
      rw [take_succ_of ha, List.map_append]
      rfl
  · rintro σ2 ⟨u1, u2, u3, rfl⟩
    walk_at "vs"
    rw [List.length_map, List.take_length]
    refine ⟨tb, _, ⟨[(Str.ofString "tall", none), (Str.ofString "spots", none), (Str.ofString "table", none), (Str.ofString "comps", none), (Str.ofString "told", none)], [(Str.ofString "wide", none), (Str.ofString "one", none), (Str.ofString "other", none)], [], [(x1, Cell.raw (· = instObj 80 d1)), (d1, Cell.ns [(Str.ofString "comp_select_list", V.list (([(1, 1), (0, -1)] : List (Nat × Int)).map csV))]), (x2, Cell.raw (· = instObj 80 d2)), (d2, Cell.ns [(Str.ofString "comp_select_list", V.list (([(0, -1), (1, 1)] : List (Nat × Int)).map csV))])]⟩, _, ⟨rfl, ⟨_, .here, .rest⟩, .drop (.drop (.drop (.drop (.drop .nil)))), .drop (.drop (.drop .nil)), rfl⟩, .ret .at, ?_⟩
    refine ⟨[], List.nil_sublist _, ?_⟩
    unfold tableF at h
    rw [List.map_map] at h
    exact h
end
end
section
set_option compiler.extract_closed false
set_option maxHeartbeats 1000000


structure Book where
  a1 : Int
  a2 : Int
  a3 : Int
  a4 : Int
  ks : List Int
  ls : List Int
noncomputable def bookV (b : Book) : V := .tup [.int b.a1, .int b.a2, .int b.a3, .int b.a4, .idict b.ks (b.ls.map V.int)]
noncomputable def zeroB : Book := ⟨0, 0, 0, 0, [], []⟩
noncomputable def addB (t s : Book) : Book := ⟨s.a1 + t.a1, s.a2 + t.a2, s.a3 + t.a3, s.a4 + t.a4, (addC t.ks t.ls s.ks s.ls).1, (addC t.ks t.ls s.ks s.ls).2⟩
noncomputable def takenF (chain : List Int) (wide size : Nat) (i : Nat) : List Int × List Int := putAll ((chain.filter fun s => s.fdiv wide == (i : Int)).map fun s => (s.fmod wide, (size : Int))) ([], [])
noncomputable def manyF (heap : List Int) (wide i : Nat) : Nat := (heap.filter fun s => s.fdiv wide == (i : Int)).length
noncomputable def entryF (chains heaps : List (List Int)) (tall wide t i : Nat) : Book :=
  ⟨(takenF (chains.getD t []) wide (tall + wide) i).1.length, ((tall + wide : Nat) : Int) * (takenF (chains.getD t []) wide (tall + wide) i).1.length, manyF (heaps.getD t []) wide i, t, (takenF (chains.getD t []) wide (tall + wide) i).1, (takenF (chains.getD t []) wide (tall + wide) i).2⟩
noncomputable def stepI (chains heaps : List (List Int)) (tall wide t : Nat) (books : List Book) (i : Nat) : List Book := books.set i (addB (books.getD i zeroB) (entryF chains heaps tall wide t i))
noncomputable def stepT (chains heaps : List (List Int)) (tall wide : Nat) (books : List Book) (t : Nat) : List Book := (List.range tall).foldl (stepI chains heaps tall wide t) books
noncomputable def booksF (chains heaps : List (List Int)) (tall wide : Nat) : List Book := (List.range (tall + wide)).foldl (stepT chains heaps tall wide) (List.replicate tall zeroB)
noncomputable def totalF (books : List Book) : Book := books.foldl addB zeroB
noncomputable def small (n : Nat) (books : List Book) : Prop := ∀ b ∈ books, b.ks.length ≤ n
theorem putAll_map {K : Type} [DecidableEq K] {α β : Type} (f : α → β) : ∀ (l : List (K × α)) (ks : List K) (vs : List α), putAll (l.map fun p => (p.1, f p.2)) (ks, vs.map f) = ((putAll l (ks, vs)).1, (putAll l (ks, vs)).2.map f)
  | [], _, _ => rfl
  | p :: l, ks, vs => by
    show putAll (l.map fun p => (p.1, f p.2)) (kput ks p.1, vput ks (vs.map f) p.1 (f p.2)) = _
    rw [vput_map, putAll_map f l]; rfl
section
variable {X : Cx} {σ : St} {k : Nat} {P : V → St → Prop}
theorem addC_len (ks l ks' l' : List Int) : (addC ks l ks' l').1.length ≤ ks.length + ks'.length := by
  unfold addC
  have h1 := addFold_len (ks'.zip l') (putAll (ks.zip l) ([], []))
  have h2 := putAll_len (ks.zip l) ([], [])
  have h3 : (ks.zip l).length ≤ ks.length := by rw [List.length_zip]; walk_at "o"
  have h4 : (ks'.zip l').length ≤ ks'.length := by rw [List.length_zip]; walk_at "o"
  simp only [List.length_nil] at h2
  walk_at "o"
theorem takenF_len (chain : List Int) (wide size i : Nat) : (takenF chain wide size i).1.length ≤ chain.length := by
  unfold takenF
  have h1 := putAll_len ((chain.filter fun s => s.fdiv wide == (i : Int)).map fun s => (s.fmod wide, (size : Int))) ([], [])
  have h2 := List.length_filter_le (fun s : Int => s.fdiv wide == (i : Int)) chain
  simp only [List.length_nil, List.length_map] at h1
  walk_at "o"
theorem sp_91' (G : G3 X) (hA : Rm X.A (k + 1 + 1)) {b c : Book} (hb : b.ks.length ≤ 1000000) (hc : c.ks.length ≤ 1000000) (h : P (bookV (addB b c)) σ) : CALL X (.ref 91) [bookV b, bookV c] σ P :=
  sp_91 G hA hb hc h
theorem sp_166 (G : G3 X) (hA : Rm X.A (k + 1 + 1 + 1)) {tall wide : Nat} {chains heaps : List (List Int)} (hb : tall + wide ≤ 6) (hc : chains.length = tall + wide) (hh' : heaps.length = tall + wide)
    (hcl : ∀ c ∈ chains, c.length ≤ 100 ∧ (c ≠ [] → 0 < wide)) (hhl : ∀ c ∈ heaps, c.length ≤ 100 ∧ (c ≠ [] → 0 < wide))
    (h : P (.tup [.list ((booksF chains heaps tall wide).map bookV), bookV (totalF (booksF chains heaps tall wide))]) σ) : CALL X (.ref 166) [(V.list (chains.map fun l => V.list (l.map V.int))), (V.list (heaps.map fun l => V.list (l.map V.int))), nat tall, nat wide] σ P := by
  refine CALL.def (ps := [Str.ofString "chains", Str.ofString "heaps", Str.ofString "tall", Str.ofString "wide"]) (loc := [(Str.ofString "chains", some ((V.list (chains.map fun l => V.list (l.map V.int))))), (Str.ofString "heaps", some ((V.list (heaps.map fun l => V.list (l.map V.int))))), (Str.ofString "tall", some (nat tall)), (Str.ofString "books", none), (Str.ofString "total", none), (Str.ofString "t", none), (Str.ofString "taken", none), (Str.ofString "many", none), (Str.ofString "book", none)]) (cel := [(Str.ofString "wide", some (nat wide)), (Str.ofString "bare", none), (Str.ofString "size", none), (Str.ofString "i", none)]) (sub := []) (rest := σ.mem) hA G.lim (G.K _ _ (o166 _).2) (cls_ne (n := "function") (by kernel_rfl)) (f166 X.w.params).2 (b166 _).2 (by kernel_rfl) ⟨165, _, _, _, rfl, G.K _ _ (o165 _).2, rfl, rfl⟩ ?_ rfl (by kernel_rfl) ⟨rfl, rfl, rfl, trivial⟩ ⟨rfl, trivial⟩ rfl ?_ (by kernel_rfl) (by kernel_rfl) (by kernel_rfl)
  · intro vs hv
    rcases vs with _ | ⟨v1, _ | ⟨v2, _ | ⟨v3, _ | ⟨v4, _ | _⟩⟩⟩⟩ <;> simp at hv
    kernel_rfl
  intro L
  have hR : Rm (X.callee (f166 X.w.params).1 L 166).A (k + 1 + 1) := hA.deeper
  have hh : (X.callee (f166 X.w.params).1 L 166).A.handled = none := hR.handled
  have G' : G3 (X.callee (f166 X.w.params).1 L 166) := G.callee
  have sl : sizeLine = 2 ^ 24 := by decide
  have ht6 : tall ≤ 6 := Nat.le_trans (Nat.le_add_right _ _) hb
  have hw6 : wide ≤ 6 := Nat.le_trans (Nat.le_add_left _ _) hb
  have hc6 : chains.length ≤ 6 := hc ▸ hb
  have hh6 : heaps.length ≤ 6 := hh' ▸ hb
  walk_at "v"
  refine ES.asg ?_ (by walk_at "vside") (by walk_at "vside") (by walk_at "vside")
  walk_at "v"
  walk_at "v"
  refine EV.dictE ?_
  walk_at "vss"
  rw [← Int.natCast_add]
  refine ES.asgSw hh ?_ (by walk_at "vside") (by walk_at "vside")
  walk_at "v"
  walk_at "v"
  refine EV.lcfM (α := Nat) ?_ (by kernel_rfl) (by kernel_rfl) rfl (by intro _; rfl)
  refine EV.callT (by walk_at "vg") "range" (by walk_at "vbn") ?_
  walk_at "vs"
  refine CALL.range ?_
  refine ⟨_, [], _, List.range tall, nat, fun _ => bookV zeroB, fun _ => true, ITERC.rngN hh (by walk_at "o"), by walk_at "vsc", by simp; walk_at "o", ?_, fun D => ?_⟩
  · intro C D c i hi
    walk_at "vs"
    refine ⟨rfl, ?_⟩
    rw [if_pos rfl]
    walk_at "vss"
    exact ⟨rfl, by walk_at "vback"⟩
  have e0 : ((List.range tall).filter fun _ => true).map (fun _ => bookV zeroB) = (List.replicate tall zeroB).map bookV := by
    rw [List.filter_eq_self.mpr (fun _ _ => rfl), List.map_const', List.map_replicate, List.length_range]
  rw [e0]
  walk_at "vss"
  refine ⟨_, rfl, rfl, ?_⟩
  dsimp only [List.reverse_cons, List.reverse_nil, List.nil_append, List.append_nil, List.cons_append]
  refine SNs.cons ?_
  walk_at "v"
  refine SNs.cons ?_
  walk_at "v"
  refine SNs.nil ?_
  walk_at "v"
  refine ES.for hh ?_
  refine EV.callT (by walk_at "vg") "range" (by walk_at "vbn") ?_
  walk_at "vs"
  refine CALL.range ?_
  refine ⟨_, ITER.rngN hh (by walk_at "o"), fun t σ2 => small (600 * t) (((List.range (tall + wide)).take t).foldl (stepT chains heaps tall wide) (List.replicate tall zeroB)) ∧ (((List.range (tall + wide)).take t).foldl (stepT chains heaps tall wide) (List.replicate tall zeroB)).length = tall ∧ ∃ v1 v2 v3 v4 v5, σ2 = ⟨[(Str.ofString "chains", some (V.list (chains.map fun l => V.list (l.map V.int)))), (Str.ofString "heaps", some (V.list (heaps.map fun l => V.list (l.map V.int)))), (Str.ofString "tall", some (nat tall)), (Str.ofString "books", some (V.ref D)), (Str.ofString "total", some (bookV zeroB)), (Str.ofString "t", v2), (Str.ofString "taken", v3), (Str.ofString "many", v4), (Str.ofString "book", v5)], [(Str.ofString "wide", some (nat wide)), (Str.ofString "bare", some (V.idict [] [])), (Str.ofString "size", some (nat (tall + wide))), (Str.ofString "i", v1)], [], [(D, Cell.list ((((List.range (tall + wide)).take t).foldl (stepT chains heaps tall wide) (List.replicate tall zeroB)).map bookV))]⟩, ⟨?_, by simp, none, none, none, none, none, rfl⟩, ?_, ?_⟩
  · intro b hb'
    simp [List.eq_of_mem_replicate (by simpa using hb'), zeroB]
  · rintro t dt σ2 ht ⟨hsm, hln, v1, v2, v3, v4, v5, rfl⟩
    rw [List.getElem?_map, Option.map_eq_some_iff] at ht
    obtain ⟨t', ht', rfl⟩ := ht
    have htt : t' = t ∧ t < tall + wide := range_at ht'
    obtain ⟨rfl, htl⟩ := htt
    have htc : t' < chains.length := hc ▸ htl
    have hth : t' < heaps.length := hh' ▸ htl
    have hstep : ((List.range (tall + wide)).take (t' + 1)).foldl (stepT chains heaps tall wide) (List.replicate tall zeroB) = stepT chains heaps tall wide (((List.range (tall + wide)).take t').foldl (stepT chains heaps tall wide) (List.replicate tall zeroB)) t' := by
      rw [take_succ_of ht', List.foldl_append]; rfl
    generalize ((List.range (tall + wide)).take t').foldl (stepT chains heaps tall wide) (List.replicate tall zeroB) = bs at *
    have hch : chains.getD t' [] ∈ chains := by
      have : chains.getD t' [] = chains[t'] := by simp [hc, htl]
      rw [this]; exact List.getElem_mem _
    have hhe : heaps.getD t' [] ∈ heaps := by
      have : heaps.getD t' [] = heaps[t'] := by simp [hh', htl]
      rw [this]; exact List.getElem_mem _
    have hc1 := hcl _ hch
    have hh1 := hhl _ hhe
    walk_at "v"
    walk_at "v"
    refine ES.for hh ?_
    refine EV.callT (by walk_at "vg") "range" (by walk_at "vbn") ?_
    walk_at "vs"
    refine CALL.range ?_
    refine ⟨_, ITER.rngN hh (by walk_at "o"), fun i σ2 => small (600 * t' + 100 * i) (((List.range tall).take i).foldl (stepI chains heaps tall wide t') bs) ∧ (((List.range tall).take i).foldl (stepI chains heaps tall wide t') bs).length = tall ∧ ∃ v1 v3 v4, σ2 = ⟨[(Str.ofString "chains", some (V.list (chains.map fun l => V.list (l.map V.int)))), (Str.ofString "heaps", some (V.list (heaps.map fun l => V.list (l.map V.int)))), (Str.ofString "tall", some (nat tall)), (Str.ofString "books", some (V.ref D)), (Str.ofString "total", some (bookV zeroB)), (Str.ofString "t", some (nat t')), (Str.ofString "taken", v3), (Str.ofString "many", v4), (Str.ofString "book", v5)], [(Str.ofString "wide", some (nat wide)), (Str.ofString "bare", some (V.idict [] [])), (Str.ofString "size", some (nat (tall + wide))), (Str.ofString "i", v1)], [], [(D, Cell.list ((((List.range tall).take i).foldl (stepI chains heaps tall wide t') bs).map bookV))]⟩, ⟨by simpa using hsm, by simpa using hln, v1, v3, v4, rfl⟩, ?_, ?_⟩
    · rintro i di σ2 hi ⟨hsm2, hln2, w1, w3, w4, rfl⟩
      rw [List.getElem?_map, Option.map_eq_some_iff] at hi
      obtain ⟨i', hi', rfl⟩ := hi
      have hii : i' = i ∧ i < tall := range_at hi'
      obtain ⟨rfl, hil⟩ := hii
      have hi6 : i' ≤ 6 := Nat.le_trans (Nat.le_of_lt hil) ht6
      have hstep2 : ((List.range tall).take (i' + 1)).foldl (stepI chains heaps tall wide t') bs = stepI chains heaps tall wide t' (((List.range tall).take i').foldl (stepI chains heaps tall wide t') bs) i' := by
        rw [take_succ_of hi', List.foldl_append]; rfl
      generalize ((List.range tall).take i').foldl (stepI chains heaps tall wide t') bs = cs at *
      have hci : cs.getD i' zeroB ∈ cs := by
        have : cs.getD i' zeroB = cs[i'] := by simp [hln2, hil]
        rw [this]; exact List.getElem_mem _
      walk_at "v"
      walk_at "v"
      refine ES.asgDC ?_ (by walk_at "vside") (by walk_at "vside")
      refine CVG.dci (α := Int) ?_ (by kernel_rfl) (by kernel_rfl) rfl (by intro _; rfl)
      walk_at "vs"
      refine SUB.li t' [] rfl (by walk_at "o") (by walk_at "o") ?_
      refine ⟨_, [], _, chains.getD t' [], V.int, fun s => (s.fmod wide, .int ((tall + wide : Nat) : Int)), fun s => s.fdiv wide == (i' : Int), ITERC.list hh, by walk_at "vsc", by walk_at "o", ?_, ?_⟩
      · intro C D' c x hx
        have hw : 0 < wide := hc1.2 (List.ne_nil_of_mem hx)
        walk_at "vs"
        refine BIN.div ?_ (int_pos (by with_reducible assumption) hw6)
        walk_at "vs"
        refine ⟨rfl, ?_⟩
        split
        · walk_at "vs"
          refine BIN.mod ?_ (int_ne (by with_reducible assumption))
          refine ⟨rfl, ?_⟩
          walk_at "vs"
          exact ⟨rfl, by walk_at "vback"⟩
        · walk_at "vback"
      have etk : (putAll (((chains.getD t' []).filter fun s => s.fdiv wide == (i' : Int)).map fun s => ((s.fmod wide, V.int ((tall + wide : Nat) : Int)) : Int × V)) ([], [])) = ((takenF (chains.getD t' []) wide (tall + wide) i').1, (takenF (chains.getD t' []) wide (tall + wide) i').2.map V.int) := by
        have := putAll_map V.int (((chains.getD t' []).filter fun s => s.fdiv wide == (i' : Int)).map fun s => (s.fmod wide, ((tall + wide : Nat) : Int))) [] []
        rw [List.map_map] at this
        exact this
      rw [etk]
      have ltk := takenF_len (chains.getD t' []) wide (tall + wide) i'
      walk_at "v"
      walk_at "v"
      walk_at "v"
      refine EV.callB (by walk_at "vg") "len" (by walk_at "vbn") ?_
      walk_at "v"
      refine EV.lcf (α := Int) ?_ (by kernel_rfl) (by kernel_rfl) rfl (by intro _; rfl)
      walk_at "vs"
      refine SUB.li t' [] rfl (by walk_at "o") (by walk_at "o") ?_
      refine ⟨_, [], _, heaps.getD t' [], V.int, V.int, fun s => s.fdiv wide == (i' : Int), ITERC.list hh, by walk_at "vsc", by walk_at "o", ?_, ?_⟩
      · intro C D' c x hx
        have hw : 0 < wide := hh1.2 (List.ne_nil_of_mem hx)
        walk_at "vs"
        refine BIN.div ?_ (int_pos (by with_reducible assumption) hw6)
        walk_at "vs"
        refine ⟨rfl, ?_⟩
        split
        · walk_at "vs"
          exact ⟨rfl, by walk_at "vback"⟩
        · walk_at "vback"
      walk_at "vs"
      have lmn : ((heaps.getD t' []).filter fun s => s.fdiv wide == (i' : Int)).length ≤ 100 := Nat.le_trans (List.length_filter_le ..) hh1.1
      refine CALL.lenL (by rw [List.length_map]; walk_at "o") ?_
      rw [List.length_map]
      walk_at "vs"
      refine ES.asgSub ?_ (by walk_at "vside")
      refine EV.callG (by walk_at "vg") 91 (by walk_at "vgn") (by decide) ?_
      walk_at "vs"
      refine SUB.lcell (a := D) (l := cs.map bookV) (d := bookV (cs.getD i' zeroB)) (j := i') (by walk_at "vm") (seqIndex_nat (by rw [List.length_map]; walk_at "o")) (by simp [hln2, hil]) (int_in hi6) ?_
      walk_at "vs"
      refine EV.callB (by walk_at "vg") "len" (by walk_at "vbn") ?_
      walk_at "vs"
      refine CALL.lenID (by walk_at "o") ?_
      walk_at "vs"
      refine EV.callB (by walk_at "vg") "len" (by walk_at "vbn") ?_
      walk_at "vs"
      refine CALL.lenID (by walk_at "o") ?_
      walk_at "vs"
      refine BIN.mul ?_ (int_64 hb)
      walk_at "vss"
      have hsc : (cs.getD i' zeroB).ks.length ≤ 600 * t' + 100 * i' := hsm2 _ hci
      refine sp_91' (k := k) (b := cs.getD i' zeroB) (c := entryF chains heaps tall wide t' i') G' hR (by walk_at "o") (by show (takenF _ _ _ _).1.length ≤ _; walk_at "o") ?_
      walk_at "vs"
      have lset : ∀ d : Book, (cs.map bookV).set i' (bookV d) = (cs.set i' d).map bookV := fun d => by rw [List.map_set]
      refine SETI.list (a := D) (l := cs.map bookV) (by walk_at "vm") (by rw [List.length_map, hln2]; exact int_ix hil) (int_lt hi6) (by walk_at "vum") ?_
      walk_at "vs"
      rw [hstep2]
      refine ⟨fun b hb' => ?_, by unfold stepI; rw [List.length_set]; exact hln2, some (nat i'), some (V.idict (takenF (chains.getD t' []) wide (tall + wide) i').1 ((takenF (chains.getD t' []) wide (tall + wide) i').2.map V.int)), some (.int ((manyF (heaps.getD t' []) wide i' : Nat) : Int)), ?_⟩
      · unfold stepI at hb'
        rcases List.mem_or_eq_of_mem_set hb' with h1 | h1
        · have := hsm2 b h1; walk_at "o"
        · subst h1
          have := addC_len (cs.getD i' zeroB).ks (cs.getD i' zeroB).ls (entryF chains heaps tall wide t' i').ks (entryF chains heaps tall wide t' i').ls
          show (addC _ _ _ _).1.length ≤ _
          have e2 : (entryF chains heaps tall wide t' i').ks.length ≤ 100 := by show (takenF _ _ _ _).1.length ≤ _; walk_at "o"
          walk_at "o"
      · rw [Int.toNat_natCast, lset]; rfl
    · rintro σ2 ⟨hsm2, hln2, w1, w3, w4, rfl⟩
      rw [List.length_map, List.take_length] at hsm2 hln2 ⊢
      walk_at "vs"
      rw [hstep]
      refine ⟨fun b hb' => ?_, hln2, w1, some (nat t'), w3, w4, v5, rfl⟩
      have := hsm2 b hb'
      rw [List.length_range] at this
      walk_at "o"
  · rintro σ2 ⟨hsm, hln, v1, v2, v3, v4, v5, rfl⟩
    rw [List.length_map, List.take_length] at hsm hln ⊢
    have hB : ((List.range (tall + wide)).foldl (stepT chains heaps tall wide) (List.replicate tall zeroB)) = booksF chains heaps tall wide := rfl
    rw [hB] at hsm hln ⊢
    rw [List.length_range] at hsm
    generalize booksF chains heaps tall wide = bs at *
    walk_at "v"
    refine J.frz (a := D) (c := .list (bs.map bookV)) (σ2 := ⟨[(Str.ofString "chains", some (V.list (chains.map fun l => V.list (l.map V.int)))), (Str.ofString "heaps", some (V.list (heaps.map fun l => V.list (l.map V.int)))), (Str.ofString "tall", some (nat tall)), (Str.ofString "books", some (V.list (bs.map bookV))), (Str.ofString "total", some (bookV zeroB)), (Str.ofString "t", v2), (Str.ofString "taken", v3), (Str.ofString "many", v4), (Str.ofString "book", v5)], [(Str.ofString "wide", some (nat wide)), (Str.ofString "bare", some (V.idict [] [])), (Str.ofString "size", some (nat (tall + wide))), (Str.ofString "i", v1)], [], []⟩) ⟨rfl, ⟨_, .here, .rest⟩, .same (.same (.same (.cons .at (.same (.same (.same (.same (.same .nil)))))))), FzE.refl _, rfl⟩ ?_
    show ES _ _ _ _
    refine ES.for hh ?_
    walk_at "vs"
    refine ⟨_, ITER.list hh, fun j σ2 => ((bs.take j).foldl addB zeroB).ks.length ≤ 3600 * j ∧ ∃ u, σ2 = ⟨[(Str.ofString "chains", some (V.list (chains.map fun l => V.list (l.map V.int)))), (Str.ofString "heaps", some (V.list (heaps.map fun l => V.list (l.map V.int)))), (Str.ofString "tall", some (nat tall)), (Str.ofString "books", some (V.list (bs.map bookV))), (Str.ofString "total", some (bookV ((bs.take j).foldl addB zeroB))), (Str.ofString "t", v2), (Str.ofString "taken", v3), (Str.ofString "many", v4), (Str.ofString "book", u)], [(Str.ofString "wide", some (nat wide)), (Str.ofString "bare", some (V.idict [] [])), (Str.ofString "size", some (nat (tall + wide))), (Str.ofString "i", v1)], [], []⟩, ⟨by simp [zeroB], v5, rfl⟩, ?_, ?_⟩
    · rintro j dj σ2 hj ⟨hk, u, rfl⟩
      rw [List.getElem?_map, Option.map_eq_some_iff] at hj
      obtain ⟨b, hb', rfl⟩ := hj
      have hbm := hsm b (List.mem_of_getElem? hb')
      have hjl := (List.getElem?_eq_some_iff.mp hb').1
      have hst : (bs.take (j + 1)).foldl addB zeroB = addB ((bs.take j).foldl addB zeroB) b := by rw [take_succ_of hb', List.foldl_append]; rfl
      generalize (bs.take j).foldl addB zeroB = tt at *
      walk_at "v"
      walk_at "v"
      walk_at "v"
      refine EV.callG (by walk_at "vg") 91 (by walk_at "vgn") (by decide) ?_
      walk_at "vs"
      refine sp_91' (k := k) G' hR (by walk_at "o") (by walk_at "o") ?_
      walk_at "vs"
      rw [hst]
      refine ⟨?_, _, rfl⟩
      have := addC_len tt.ks tt.ls b.ks b.ls
      show (addC _ _ _ _).1.length ≤ _
      walk_at "o"
    · rintro σ2 ⟨hk, u, rfl⟩
      rw [List.length_map, List.take_length]
      walk_at "vss"
      exact h
end
end
section
set_option compiler.extract_closed false
set_option maxHeartbeats 1000000


noncomputable def styleF (c i : Nat) : Nat := c / 20 ^ (i % 5) % 20
noncomputable def needF (q : Bool) : Str := if q then Str.ofString "\"\\" else Str.ofString "\\ \t\n\r"
noncomputable def markF (q : Bool) : Str := if q then Str.ofString "\"" else Str.ofString ""
noncomputable def gapsF (q : Bool) : List Str := [Str.ofString " ", Str.ofString "\t", Str.ofString "\n", Str.ofString "\r", if q then Str.ofString "" else Str.ofString "\n "]
noncomputable def signF (q full : Bool) (n : Nat) : Str := if full || decide (n ∈ (needF q).cps.toList) then Str.ofString "\\" ++ ⟨#[n]⟩ else ⟨#[n]⟩
noncomputable def encF (sty : Nat) (w : Str) : Str := markF (sty % 2 == 1) ++ Txt.join (Str.ofString "") (w.cps.toList.map (signF (sty % 2 == 1) (sty / 2 % 2 == 1))) ++ markF (sty % 2 == 1) ++ (gapsF (sty % 2 == 1)).getD (sty / 4) (Str.ofString "")
noncomputable def textF (words : List Str) (c : Nat) : Str := (List.range words.length).foldl (fun t i => t ++ encF (styleF c i) (words.getD i (Str.ofString ""))) (Str.ofString "")
theorem fdiv_nat (a b : Nat) : (a : Int).fdiv (b : Int) = ((a / b : Nat) : Int) := by rw [Int.fdiv_eq_ediv_of_nonneg _ (by walk_at "o")]; rfl
theorem fmod_nat (a b : Nat) : (a : Int).fmod (b : Int) = ((a % b : Nat) : Int) := by rw [Int.fmod_eq_emod_of_nonneg _ (by walk_at "o")]; rfl
section
variable {X : Cx} {σ : St} {k : Nat} {P : V → St → Prop}
theorem BIN.divN {a : Nat} (b : Nat) (h : P (nat (a / b)) σ) (hb : 0 < b ∧ b < 1073741824) : BIN X .FloorDiv (nat a) (nat b) σ P := BIN.div (by rw [fdiv_nat]; exact h) (by walk_at "o")
theorem BIN.modN {a : Nat} (b : Nat) (h : P (nat (a % b)) σ) (hb : b ≠ 0) : BIN X .Mod (nat a) (nat b) σ P := BIN.mod (by rw [fmod_nat]; exact h) (by walk_at "o")
theorem BIN.powN (a : Nat) {b : Nat} (h : P (nat (a ^ b)) σ) (hb : b ≤ 1000) (ha : a < 2 ^ 60) : BIN X .Pow (nat a) (nat b) σ P := BIN.pow (by
  have e : ((a : Int) ^ ((b : Int)).toNat) = ((a ^ b : Nat) : Int) := by rw [Int.toNat_natCast, Int.natCast_pow]
  rw [e]; exact h) (by walk_at "o") (by walk_at "o")
theorem CMP.eqN {a : Nat} (b : Nat) (h : P (.bool (a == b)) σ) : CMP X .Eq (nat a) (nat b) σ P := CMP.eqi (by
  have e : ((a : Int) == (b : Int)) = (a == b) := by rw [Bool.eq_iff_iff, beq_iff_eq, beq_iff_eq]; exact Int.ofNat_inj
  rw [e]; exact h)
theorem join_len : ∀ (ys : List Str) (n : Nat), (∀ y ∈ ys, y.length ≤ n) → (ys.map (·.length)).sum ≤ n * ys.length := by
  intro ys n h
  induction ys with
  | nil => simp
  | cons a ys ih =>
    have h1 := ih fun y hy => h y (.tail _ hy)
    have h2 := h a (.head _)
    rw [List.map_cons, List.sum_cons, List.length_cons, Nat.mul_add]
    walk_at "o"
theorem sp_134 (G : G3 X) (hA : Rm X.A (k + 1)) {words : List Str} {c : Nat} (hl : words.length ≤ 10) (hw : ∀ w ∈ words, w.length ≤ 20) (hc : c ≤ 10 ^ 12) (h : P (.str (StrLaws.sliceText (textF words c) none (some (-1)))) σ) : CALL X (.ref 134) [(V.list (words.map V.str)), nat c] σ P := by
  refine CALL.def (ps := [Str.ofString "words", Str.ofString "cell"]) (loc := [(Str.ofString "words", some ((V.list (words.map V.str)))), (Str.ofString "cell", some (nat c)), (Str.ofString "text", none), (Str.ofString "i", none), (Str.ofString "style", none), (Str.ofString "quoted", none), (Str.ofString "mark", none), (Str.ofString "gap", none)]) (cel := [(Str.ofString "full", none), (Str.ofString "need", none)]) (sub := []) (rest := σ.mem) hA G.lim (G.K _ _ (o134 _).2) (cls_ne (n := "function") (by kernel_rfl)) (f134 X.w.params).2 (b134 _).2 (by kernel_rfl) ⟨133, _, _, _, rfl, G.K _ _ (o133 _).2, rfl, rfl⟩ ?_ rfl (by kernel_rfl) ⟨rfl, rfl, trivial⟩ trivial rfl ?_ (by kernel_rfl) (by kernel_rfl) (by kernel_rfl)
  · intro vs hv
    rcases vs with _ | ⟨v1, _ | ⟨v2, _ | _⟩⟩ <;> simp at hv
    kernel_rfl
  intro L
  have hR : Rm (X.callee (f134 X.w.params).1 L 134).A (k) := hA.deeper
  have hh : (X.callee (f134 X.w.params).1 L 134).A.handled = none := hR.handled
  have G' : G3 (X.callee (f134 X.w.params).1 L 134) := G.callee
  have sl : sizeLine = 2 ^ 24 := by decide
  walk_at "vs"
  refine ES.for hh ?_
  refine EV.callT (by walk_at "vg") "range" (by walk_at "vbn") ?_
  walk_at "vs"
  refine EV.callB (by walk_at "vg") "len" (by walk_at "vbn") ?_
  walk_at "vs"
  refine CALL.lenL (by rw [List.length_map]; walk_at "o") ?_
  walk_at "vs"
  rw [List.length_map]
  refine CALL.range ?_
  refine ⟨_, ITER.rngN hh (by walk_at "o"), fun i σ2 => (((List.range words.length).take i).foldl (fun t i => t ++ encF (styleF c i) (words.getD i (Str.ofString ""))) (Str.ofString "")).length ≤ 50 * i ∧ ∃ v1 v2 v3 v4 v5 v6 v7, σ2 = ⟨[(Str.ofString "words", some (V.list (words.map V.str))), (Str.ofString "cell", some (nat c)), (Str.ofString "text", some (.str (((List.range words.length).take i).foldl (fun t i => t ++ encF (styleF c i) (words.getD i (Str.ofString ""))) (Str.ofString "")))), (Str.ofString "i", v1), (Str.ofString "style", v2), (Str.ofString "quoted", v3), (Str.ofString "mark", v4), (Str.ofString "gap", v5)], [(Str.ofString "full", v6), (Str.ofString "need", v7)], [], []⟩, ⟨Nat.zero_le _, none, none, none, none, none, none, none, rfl⟩, ?_, ?_⟩
  · rintro i di σ2 hi ⟨hk, v1, v2, v3, v4, v5, v6, v7, rfl⟩
    rw [List.getElem?_map, Option.map_eq_some_iff] at hi
    obtain ⟨i', hi', rfl⟩ := hi
    have hii : i' = i ∧ i < words.length := range_at hi'
    obtain ⟨rfl, hil⟩ := hii
    have hst : ((List.range words.length).take (i' + 1)).foldl (fun t i => t ++ encF (styleF c i) (words.getD i (Str.ofString ""))) (Str.ofString "") = ((List.range words.length).take i').foldl (fun t i => t ++ encF (styleF c i) (words.getD i (Str.ofString ""))) (Str.ofString "") ++ encF (styleF c i') (words.getD i' (Str.ofString "")) := by
      rw [take_succ_of hi', List.foldl_append]; rfl
    generalize ((List.range words.length).take i').foldl (fun t i => t ++ encF (styleF c i) (words.getD i (Str.ofString ""))) (Str.ofString "") = tx at *
    walk_at "vs"
    refine BIN.modN 5 ?_ (by decide)
    have hm5 : i' % 5 < 5 := Nat.mod_lt _ (by decide)
    have hp5 : 20 ^ (i' % 5) ≤ 20 ^ 4 := Nat.pow_le_pow_right (by decide) (Nat.le_of_lt_succ hm5)
    have hp0 : 0 < 20 ^ (i' % 5) := Nat.pow_pos (by decide)
    refine BIN.powN 20 ?_ (Nat.le_trans (Nat.le_of_lt hm5) (by decide)) (by decide)
    refine BIN.divN _ ?_ ⟨hp0, Nat.lt_of_le_of_lt hp5 (by decide)⟩
    walk_at "vs"
    refine BIN.modN 20 ?_ (by decide)
    have hs20 : c / 20 ^ (i' % 5) % 20 < 20 := Nat.mod_lt _ (by decide)
    have hse : styleF c i' = c / 20 ^ (i' % 5) % 20 := rfl
    rw [hse] at hst
    generalize c / 20 ^ (i' % 5) % 20 = sty at *
    walk_at "v"
    walk_at "v"
    refine ES.asg ?_ (by walk_at "vside") (by walk_at "vside") (by walk_at "vside")
    walk_at "vs"
    refine BIN.modN 2 ?_ (by decide)
    walk_at "v"
    refine CMP.eqN 1 ?_
    walk_at "vs"
    refine BIN.divN 2 ?_ (by decide)
    walk_at "v"
    refine BIN.modN 2 ?_ (by decide)
    walk_at "v"
    refine CMP.eqN 1 ?_
    walk_at "vss"
    have he : encF sty (words.getD i' (Str.ofString "")) = markF (sty % 2 == 1) ++ Txt.join (Str.ofString "") ((words.getD i' (Str.ofString "")).cps.toList.map (signF (sty % 2 == 1) (sty / 2 % 2 == 1))) ++ markF (sty % 2 == 1) ++ (gapsF (sty % 2 == 1)).getD (sty / 4) (Str.ofString "") := rfl
    rw [he] at hst
    generalize (sty % 2 == 1) = q at *
    generalize (sty / 2 % 2 == 1) = fu at *
    have hwi : words.getD i' (Str.ofString "") ∈ words := by
      have : words.getD i' (Str.ofString "") = words[i'] := by simp [hil]
      rw [this]; exact List.getElem_mem _
    have hwl := hw _ hwi
    generalize hwd : words.getD i' (Str.ofString "") = wd at *
    have h4 : sty / 4 < 5 := by walk_at "o"
    have hsl : ∀ n, (signF q fu n).length ≤ 2 := fun n => by unfold signF; split <;> exact Nat.le_of_ble_eq_true rfl
    have hgl : ((gapsF q).getD (sty / 4) (Str.ofString "")).length ≤ 2 := by
      generalize sty / 4 = g at h4
      match g, h4 with
      | 0, _ => exact Nat.le_of_ble_eq_true rfl
      | 1, _ => exact Nat.le_of_ble_eq_true rfl
      | 2, _ => exact Nat.le_of_ble_eq_true rfl
      | 3, _ => exact Nat.le_of_ble_eq_true rfl
      | 4, _ => cases q <;> exact Nat.le_of_ble_eq_true rfl
    have hml : (markF q).length ≤ 1 := by cases q <;> exact Nat.le_of_ble_eq_true rfl
    have hj := join_len (wd.cps.toList.map (signF q fu)) 2 (fun y hy => by obtain ⟨n, _, rfl⟩ := List.mem_map.mp hy; exact hsl n)
    have hwl2 : (wd.cps.toList.map (signF q fu)).length = wd.length := by simp [Str.length]
    have hjl : (Txt.join (Str.ofString "") (wd.cps.toList.map (signF q fu))).length ≤ 40 := by
      have h1 := size_glued (Str.ofString "") (wd.cps.toList.map (signF q fu))
      rw [show (Str.ofString "").length = 0 from rfl, Nat.mul_zero] at h1
      have h2 : Txt.join (Str.ofString "") (wd.cps.toList.map (signF q fu)) = Builtin.Str.glued (Str.ofString "") (wd.cps.toList.map (signF q fu)) := rfl
      rw [h2]; walk_at "o"
    have fin : EX (X.callee (f134 X.w.params).1 L 134) (match (b134 X.w.params).1 with | [_, .For _ _ [_, _, _, _, st] _ _, _] => [st] | _ => []) ⟨[(Str.ofString "words", some (V.list (words.map V.str))), (Str.ofString "cell", some (nat c)), (Str.ofString "text", some (.str tx)), (Str.ofString "i", some (nat i')), (Str.ofString "style", some (nat sty)), (Str.ofString "quoted", some (.bool q)), (Str.ofString "mark", some (.str (markF q))), (Str.ofString "gap", some (.str ((gapsF q).getD (sty / 4) (Str.ofString ""))))], [(Str.ofString "full", some (.bool fu)), (Str.ofString "need", some (.str (needF q)))], [], []⟩ fun f σ4 => f = .next ∧ σ4 = ⟨[(Str.ofString "words", some (V.list (words.map V.str))), (Str.ofString "cell", some (nat c)), (Str.ofString "text", some (.str (tx ++ (markF q ++ Txt.join (Str.ofString "") (wd.cps.toList.map (signF q fu)) ++ markF q ++ (gapsF q).getD (sty / 4) (Str.ofString ""))))), (Str.ofString "i", some (nat i')), (Str.ofString "style", some (nat sty)), (Str.ofString "quoted", some (.bool q)), (Str.ofString "mark", some (.str (markF q))), (Str.ofString "gap", some (.str ((gapsF q).getD (sty / 4) (Str.ofString ""))))], [(Str.ofString "full", some (.bool fu)), (Str.ofString "need", some (.str (needF q)))], [], []⟩ := by
      walk_at "vs"
      refine EV.meth "str" "str.join" F.plainAttrs_str F.slot_str_join F.type_str_join ?_
      walk_at "v"
      refine ⟨TypeV.str, ?_⟩
      walk_at "v"
      refine EV.lcm (α := Nat) ?_ (by kernel_rfl) (by kernel_rfl) rfl (by intro _; rfl)
      walk_at "vs"
      refine SUB.li i' (Str.ofString "") rfl hil (by walk_at "o") ?_
      rw [hwd]
      refine ⟨_, [], _, wd.cps.toList, fun n => V.str ⟨#[n]⟩, fun n => V.str (signF q fu n), ITERC.str hh, by walk_at "vsc", by show wd.cps.toList.length ≤ _; have : wd.cps.toList.length = wd.length := by simp [Str.length]
                                                                                                                                walk_at "o", ?_, ?_⟩
      · intro C D c' n hn
        walk_at "vs"
        cases fu with
        | true =>
          rw [if_pos rfl]
          rw [if_pos rfl]
          walk_at "vs"
          refine BIN.adds ?_ (Nat.le_of_ble_eq_true rfl)
          exact ⟨rfl, by walk_at "vback"⟩
        | false =>
          rw [if_neg (by decide)]
          walk_at "vs"
          refine CMP.inS ?_
          walk_at "v"
          by_cases hin : n ∈ (needF q).cps.toList
          · rw [if_pos (decide_eq_true hin), if_pos rfl]
            walk_at "vs"
            refine BIN.adds ?_ (Nat.le_of_ble_eq_true rfl)
            refine ⟨?_, by walk_at "vback"⟩
            unfold signF; rw [decide_eq_true hin]; rfl
          · rw [if_neg (by simpa using hin)]
            walk_at "v"
            rw [if_neg (by decide)]
            walk_at "vs"
            refine ⟨?_, by walk_at "vback"⟩
            unfold signF; rw [decide_eq_false hin]; rfl
      have ej : wd.cps.toList.map (fun n => V.str (signF q fu n)) = (wd.cps.toList.map (signF q fu)).map V.str := by rw [List.map_map]; rfl
      rw [ej]
      walk_at "v"
      refine CALL.join (by rw [show (Str.ofString "").length = 0 from rfl, Nat.mul_zero]; walk_at "o") ?_
      refine BIN.adds ?_ (by walk_at "o")
      walk_at "vs"
      refine BIN.adds ?_ (by rw [strLen_append]; walk_at "o")
      walk_at "vs"
      refine BIN.adds ?_ (by rw [strLen_append, strLen_append]; walk_at "o")
      refine INP.adds ?_ (by rw [strLen_append, strLen_append, strLen_append]; walk_at "o")
      walk_at "vs"
      exact ⟨rfl, rfl⟩
    cases q with
    | false =>
      (first | rw [if_pos rfl] | rw [if_neg (by decide)])
      walk_at "v"
      walk_at "v"
      walk_at "v"
      refine ES.asgSw hh ?_ (by walk_at "vside") (by walk_at "vside")
      walk_at "vs"
      (first | rw [if_pos rfl] | rw [if_neg (by decide)])
      walk_at "vs"
      (first | rw [if_pos rfl] | rw [if_neg (by decide)])
      walk_at "vss"
      refine BIN.divN 4 ?_ (by decide)
      refine SUB.ti (sty / 4) (d := .str ((gapsF false).getD (sty / 4) (Str.ofString ""))) rfl ?_ (Nat.le_of_ble_eq_true rfl) ?_
      · generalize sty / 4 = g at h4
        match g, h4 with
        | 0, _ => rfl
        | 1, _ => rfl
        | 2, _ => rfl
        | 3, _ => rfl
        | 4, _ => rfl
      walk_at "vss"
      refine ⟨_, rfl, rfl, ?_⟩
      show SNs _ [_, _] [_, _] _ _
      refine SNs.cons ?_
      walk_at "v"
      refine SNs.cons ?_
      walk_at "v"
      refine SNs.nil ?_
      refine Kont.next (by with_reducible assumption) ?_
      refine J.mono fin fun f σ4 ⟨e1, e2⟩ => ?_
      subst e1 e2
      walk_at "vs"
      rw [hst]
      refine ⟨?_, _, _, _, _, _, _, _, rfl⟩
      rw [strLen_append, strLen_append, strLen_append, strLen_append]
      walk_at "o"
    | true =>
      (first | rw [if_pos rfl] | rw [if_neg (by decide)])
      walk_at "v"
      walk_at "v"
      walk_at "v"
      refine ES.asgSw hh ?_ (by walk_at "vside") (by walk_at "vside")
      walk_at "vs"
      (first | rw [if_pos rfl] | rw [if_neg (by decide)])
      walk_at "vs"
      (first | rw [if_pos rfl] | rw [if_neg (by decide)])
      walk_at "vss"
      refine BIN.divN 4 ?_ (by decide)
      refine SUB.ti (sty / 4) (d := .str ((gapsF true).getD (sty / 4) (Str.ofString ""))) rfl ?_ (Nat.le_of_ble_eq_true rfl) ?_
      · generalize sty / 4 = g at h4
        match g, h4 with
        | 0, _ => rfl
        | 1, _ => rfl
        | 2, _ => rfl
        | 3, _ => rfl
        | 4, _ => rfl
      walk_at "vss"
      refine ⟨_, rfl, rfl, ?_⟩
      show SNs _ [_, _] [_, _] _ _
      refine SNs.cons ?_
      walk_at "v"
      refine SNs.cons ?_
      walk_at "v"
      refine SNs.nil ?_
      refine Kont.next (by with_reducible assumption) ?_
      refine J.mono fin fun f σ4 ⟨e1, e2⟩ => ?_
      subst e1 e2
      walk_at "vs"
      rw [hst]
      refine ⟨?_, _, _, _, _, _, _, _, rfl⟩
      rw [strLen_append, strLen_append, strLen_append, strLen_append]
      walk_at "o"
  · rintro σ2 ⟨hk, v1, v2, v3, v4, v5, v6, v7, rfl⟩
    rw [List.length_map, List.take_length] at hk ⊢
    rw [List.length_range] at hk
    have ht : (List.range words.length).foldl (fun t i => t ++ encF (styleF c i) (words.getD i (Str.ofString ""))) (Str.ofString "") = textF words c := rfl
    rw [ht] at hk ⊢
    walk_at "vs"
    refine ⟨-1, rfl, ?_⟩
    walk_at "vs"
    refine SUB.sliceS (by walk_at "o") ?_
    walk_at "vs"
    exact h
end
end
section
set_option compiler.extract_closed false
set_option maxHeartbeats 1000000


noncomputable def o52 (P : Params) : { o : Obj // (K3 P).lookup 52 = some o } := ⟨k52 P, by kernel_rfl⟩
noncomputable def o51 (P : Params) : { o : Obj // (K3 P).lookup 51 = some o } := ⟨k51 P, by kernel_rfl⟩
noncomputable def es51 (P : Params) : { e : Array DictEntry × Nat // (o51 P).1.data = .dict e.1 e.2 } := ⟨(_, _), rfl⟩
noncomputable def K52 (P : Params) : Frag := [(52, (o52 P).1), (51, (o51 P).1), (28, (o28 P).1)]
theorem c52 (P : Params) : ∃ nm q bs sn sub col dd k0 k1 k2 k3 k5, (o52 P).1 = excClassObj nm q 52 51 bs [.type "object"] true sn sub false col dd k0 k1 k2 k3 k5 "object.__new__" := ⟨_, _, _, _, _, _, _, _, _, _, _, _, rfl⟩
noncomputable def mN52 (P : Params) : Str → Option Value := nsFind (es51 P).1.1
noncomputable def wsF : Str := Str.ofString "\n\t\r "
section
variable {X : Cx} {σ : St} {k : Nat} {P : V → St → Prop}
theorem cls52 (G : G3 X) : ClsX X 52 51 (mN52 X.w.params) := by
  refine ⟨⟨?_, ?_⟩, fun o ho => ?_⟩
  · obtain ⟨nm, q, bs, sn, sub, col, dd, k0, k1, k2, k3, k5, e⟩ := c52 X.w.params
    exact ⟨nm, q, bs, sn, sub, col, dd, k0, k1, k2, k3, k5, by rw [← e]; exact G.K _ _ (o52 _).2⟩
  · exact ⟨_, _, _, G.K _ _ (o51 _).2, (es51 _).2, strKeys_of (by kernel_rfl), fun _ => rfl⟩
  · have := G.K _ _ (o52 X.w.params).2
    rw [ho] at this; cases this
    exact cls_ne (n := "type") (by kernel_rfl)
theorem kin52 (G : G3 X) : KIn X (K52 X.w.params) := fun a o h => by
  unfold K52 at h
  simp only [List.lookup_cons, List.lookup_nil] at h
  split at h
  · rename_i e; rw [eq_of_beq e]; cases h; exact ⟨G.K _ _ (o52 _).2, cls_ne (n := "type") (by kernel_rfl)⟩
  · split at h
    · rename_i e; rw [eq_of_beq e]; cases h; exact ⟨G.K _ _ (o51 _).2, cls_ne (n := "dict") (by kernel_rfl)⟩
    · split at h
      · rename_i e; rw [eq_of_beq e]; cases h; exact ⟨G.K _ _ (o28 _).2, cls_ne (n := "function") (by kernel_rfl)⟩
      · cases h
theorem sp_28 (G : G3 X) (hA : Rm X.A (k + 1)) {x dx : Addr} {fp : V} {m : List (Addr × Cell)} (hm : σ.mem = m ++ [(x, Cell.raw (· = instObj 52 dx)), (dx, Cell.ns [])]) (h : ∀ pb, P .none { σ with mem := m ++ [(x, Cell.raw (· = instObj 52 dx)), (dx, Cell.ns [(Str.ofString "lineno", V.int 1), (Str.ofString "instream", fp), (Str.ofString "whitespace", V.str wsF), (Str.ofString "pushback", V.ref pb)])] ++ [(pb, Cell.list [])] }) : CALLR X (.ref 28) [.ref x, fp] σ P := by
  refine CALLR.def (ps := [Str.ofString "self", Str.ofString "fp"]) (loc := [(Str.ofString "self", some (.ref x)), (Str.ofString "fp", some (fp))]) (cel := []) (sub := m ++ [(x, Cell.raw (· = instObj 52 dx)), (dx, Cell.ns [])]) (rest := []) hA G.lim (G.K _ _ (o28 _).2) (cls_ne (n := "function") (by kernel_rfl)) (f28 X.w.params).2 (b28 _).2 (by kernel_rfl) ⟨27, _, _, _, rfl, G.K _ _ (o27 _).2, rfl, rfl⟩ ?_ rfl (by kernel_rfl) ⟨rfl, rfl, trivial⟩ trivial (by rw [hm, List.append_nil]) ?_ (by kernel_rfl) (by kernel_rfl) (by kernel_rfl)
  · intro vs hv
    rcases vs with _ | ⟨v1, _ | ⟨v2, _ | _⟩⟩ <;> simp at hv
    kernel_rfl
  intro L
  have hR : Rm (X.callee (f28 X.w.params).1 L 28).A (k) := hA.deeper
  have hh : (X.callee (f28 X.w.params).1 L 28).A.handled = none := hR.handled
  have G' : G3 (X.callee (f28 X.w.params).1 L 28) := G.callee
  walk_at "v"
  refine ES.asgAttr ?_ (by walk_at "vside")
  walk_at "vs"
  refine ⟨x, rfl, ?_⟩
  refine SETA.inst 52 51 _ (cls52 G') (by kernel_rfl) (by kernel_rfl) (by rw [typeLookup_type, builtinLookup_eq_fast]; kernel_rfl) (by walk_at "vm") (by walk_at "vm") (.new) (by walk_at "vum") (Nat.le_of_ble_eq_true rfl) ?_
  walk_at "vs"
  refine ES.asgAttr ?_ (by walk_at "vside")
  walk_at "vs"
  refine ⟨x, rfl, ?_⟩
  refine SETA.inst 52 51 _ (cls52 G') (by kernel_rfl) (by kernel_rfl) (by rw [typeLookup_type, builtinLookup_eq_fast]; kernel_rfl) (by walk_at "vm") (by walk_at "vm") (.miss (by decide +kernel) .new) (by walk_at "vum") (Nat.le_of_ble_eq_true rfl) ?_
  walk_at "vs"
  refine ES.asgAttr ?_ (by walk_at "vside")
  walk_at "vs"
  refine ⟨x, rfl, ?_⟩
  refine SETA.inst 52 51 _ (cls52 G') (by kernel_rfl) (by kernel_rfl) (by rw [typeLookup_type, builtinLookup_eq_fast]; kernel_rfl) (by walk_at "vm") (by walk_at "vm") (.miss (by decide +kernel) (.miss (by decide +kernel) .new)) (by walk_at "vum") (Nat.le_of_ble_eq_true rfl) ?_
  walk_at "vs"
  refine ES.asgAttr ?_ (by walk_at "vside")
  refine EV.listM ?_
  walk_at "vss"
  intro pb
  walk_at "vs"
  refine ⟨x, rfl, ?_⟩
  refine SETA.inst 52 51 _ (cls52 G') (by kernel_rfl) (by kernel_rfl) (by rw [typeLookup_type, builtinLookup_eq_fast]; kernel_rfl) (by walk_at "vm") (by walk_at "vm") (.miss (by decide +kernel) (.miss (by decide +kernel) (.miss (by decide +kernel) .new))) (by walk_at "vum") (Nat.le_of_ble_eq_true rfl) ?_
  walk_at "vs"
  rw [List.append_nil]
  exact h pb
theorem sp_49 (G : G3 X) (hA : Rm X.A (k + 1)) {x dx pb : Addr} {fp d : V} {ln : Int} {l : List V} {mem'} (hx : (x, Cell.raw (· = instObj 52 dx)) ∈ σ.mem) (hd : (dx, Cell.ns [(Str.ofString "lineno", V.int ln), (Str.ofString "instream", fp), (Str.ofString "whitespace", V.str wsF), (Str.ofString "pushback", V.ref pb)]) ∈ σ.mem) (hp : (pb, Cell.list l) ∈ σ.mem) (hu : UpM pb (.list (l ++ [d])) σ.mem mem') (hs : l.length ≤ sizeLine) (h : P .none { σ with mem := mem' }) : CALL X (.ref 49) [.ref x, d] σ P := by
  refine CALL.def (ps := [Str.ofString "self", Str.ofString "token"]) (loc := [(Str.ofString "self", some (.ref x)), (Str.ofString "token", some (d))]) (cel := []) (sub := σ.mem) (rest := []) hA G.lim (G.K _ _ (o49 _).2) (cls_ne (n := "function") (by kernel_rfl)) (f49 X.w.params).2 (b49 _).2 (by kernel_rfl) ⟨48, _, _, _, rfl, G.K _ _ (o48 _).2, rfl, rfl⟩ ?_ rfl (by kernel_rfl) ⟨rfl, rfl, trivial⟩ trivial (List.append_nil _).symm ?_ (by kernel_rfl) (by kernel_rfl) (by kernel_rfl)
  · intro vs hv
    rcases vs with _ | ⟨v1, _ | ⟨v2, _ | _⟩⟩ <;> simp at hv
    kernel_rfl
  intro L
  have hR : Rm (X.callee (f49 X.w.params).1 L 49).A (k) := hA.deeper
  have hh : (X.callee (f49 X.w.params).1 L 49).A.handled = none := hR.handled
  have G' : G3 (X.callee (f49 X.w.params).1 L 49) := G.callee
  walk_at "vs"
  refine EV.meth "list" "list.append" F.plainAttrs_list F.slot_list_append F.type_list_append ?_
  refine EV.attrI 52 51 _ (cls52 G') (by kernel_rfl) (by kernel_rfl) (by rw [typeLookup_type, builtinLookup_eq_fast]; kernel_rfl) ?_
  walk_at "vs"
  refine ⟨x, dx, _, _, rfl, hx, hd, by walk_at "vm", (fun Z v hv => by cases hv; rfl), ?_⟩
  refine ⟨TypeV.cell hp, ?_⟩
  walk_at "vs"
  refine CALL.append hp hu ?_ hs
  walk_at "vs"
  rw [List.append_nil]
  exact h
end
end
section
set_option compiler.extract_closed false
set_option maxHeartbeats 1000000


noncomputable abbrev one (c : Nat) : V := .str ⟨#[c]⟩
noncomputable def nl (t : List Nat) : Int := (t.count 10 : Nat)
structure LxA where
  (L dx pb S DS R c1 c2 c gl : Addr)
  (oS oR : Obj)
noncomputable abbrev nsL (a : LxA) (i : Int) : List (Str × V) := [(Str.ofString "lineno", V.int i), (Str.ofString "instream", V.ref a.S), (Str.ofString "whitespace", V.str wsF), (Str.ofString "pushback", V.ref a.pb)]
noncomputable abbrev lexM (q : Str) (a : LxA) (i : Int) (t : List Nat) (p : List V) : List (Addr × Cell) :=
  [(a.gl, .list (t.map one).reverse), (a.c1, .raw (codeIs q)), (a.S, .raw (· = a.oS)), (a.c2, .raw (codeIs q)), (a.R, .raw (· = a.oR)), (a.DS, .ns [(Str.ofString "read", V.ref a.R)]), (a.L, .raw (· = instObj 52 a.dx)),
   (a.dx, .ns (nsL a i)), (a.pb, .list p), (a.c, .raw (cellIs a.gl))]
noncomputable def lamOf : Stmt → Option (Arguments × PySem.Expr × Scope × Pos)
  | .Assign _ (.Lambda p b s q) _ => some (p, b, s, q)
  | _ => none
noncomputable def l141 (P : Params) : { x : Arguments × PySem.Expr × Scope × Pos // (b141 P).1[2]?.bind lamOf = some x } := ⟨(_, _, _, _), rfl⟩
noncomputable def qL (P : Params) : Str := (f141 P).1.qualname ++ ".<locals>." ++ "<lambda>"
noncomputable def LxOk (P : Params) (a : LxA) : Prop := a.oS.cls = .type "function" ∧ (∃ fd, a.oS.data = .func fd) ∧ a.oS.dict = some a.DS ∧
  ∃ nm ctv, a.oR = kla_obj "<lambda>" (qL P) (l141 P).1.1 (l141 P).1.2.1 (l141 P).1.2.2.1 [(Str.ofString "signs", a.c)] nm a.c2 ctv
structure LamOk (X : Cx) : Prop where
  C : CodeHd X.base 140 136
  g : ∃ mg, X.base.Ns mainGlobals mg ∧ ∃ bm ob, mg "__builtins__" = some (.ref bm) ∧ bm ≠ builtinsNs ∧ bm ≠ mainGlobals ∧ X.base.get? bm = some ob ∧ ob.cls = .type "module" ∧ ob.dict = some builtinsNs ∧ ob.data = .plain
section
variable {X : Cx} {σ : St} {k : Nat} {P : V → St → Prop}
theorem LamOk.callee (h : LamOk X) {fd L a} : LamOk (X.callee fd L a) := ⟨h.C, h.g⟩
theorem sp_141 (G : G3 X) (hL : LamOk X) (hA : Rm X.A (k + 3)) {text : Str} {rest : List (Addr × Cell)} (hm : σ.mem = [(136, Cell.raw (· = tabObj #[]))] ++ rest) (hs : text.length ≤ sizeLine)
    (h : ∀ a tb, LxOk X.w.params a → P (.ref a.L) { σ with mem := [(136, Cell.raw (· = tabObj tb))] ++ lexM (qL X.w.params) a 1 text.cps.toList [] ++ rest }) : CALL X (.ref 141) [.str text] σ P := by
  refine CALLR.call (CALLR.defO (ps := [Str.ofString "text"]) (loc := [(Str.ofString "text", some (.str text)), (Str.ofString "stream", none)]) (cel := [(Str.ofString "signs", none)]) (sub := [(136, Cell.raw (· = tabObj #[]))]) (rest := rest) hA G.lim (G.K _ _ (o141 _).2) (cls_ne (n := "function") (by kernel_rfl)) (f141 X.w.params).2 (b141 _).2 (by kernel_rfl) ⟨140, _, _, _, rfl, G.K _ _ (o140 _).2, rfl, rfl⟩ ?_ rfl (by kernel_rfl) ⟨rfl, trivial⟩ trivial hm (fun L => rfl) ?_ (by kernel_rfl) (by kernel_rfl) (by kernel_rfl))
  · intro vs hv
    rcases vs with _ | ⟨v1, _ | _⟩ <;> simp at hv
    kernel_rfl
  intro L
  have hR : Rm (X.callee (f141 X.w.params).1 L 141).A (k + 2) := hA.deeper
  have hh : (X.callee (f141 X.w.params).1 L 141).A.handled = none := hR.handled
  have G' : G3 (X.callee (f141 X.w.params).1 L 141) := G.callee
  have hL' : LamOk (X.callee (f141 X.w.params).1 L 141) := hL.callee
  obtain ⟨mg, hmg, hbm⟩ := hL'.g
  walk_at "vs"
  refine EV.call ?_
  walk_at "vs"
  refine ⟨_, (fun Z v h => h), ?_⟩
  walk_at "vs"
  refine ⟨Keep.type, ?_⟩
  refine CALL.listS hh hs ?_
  walk_at "vs"
  refine ⟨_, rfl, ?_⟩
  refine SUB.sliceLM ?_ ?_ ?_
  · unfold signV; rw [List.length_map]; exact hs
  · decide
  intro gl
  rw [pickV_rev]
  walk_at "vs"
  refine EV.lam rfl (clos := []) (by kernel_rfl) rfl hmg (c := 140) (Pt := 136) (by kernel_rfl) hL'.C (ps := #[]) (by walk_at "vm") trivial rfl hbm (fun c' => by walk_at "vum") ?_
  intro S c1 ct1
  walk_at "vs"
  refine ES.asgAttr ?_ (by walk_at "vside")
  refine EV.lam rfl (clos := [(Str.ofString "signs", L + 1)]) (by kernel_rfl) rfl hmg (c := 140) (Pt := 136) (by kernel_rfl) hL'.C (by walk_at "vm") (by exact trivial) (by kernel_rfl) hbm (fun c' => by walk_at "vum") ?_
  intro R c2 ct2
  walk_at "vs"
  refine ⟨S, rfl, ?_⟩
  refine SETA.fn (by walk_at "vm") rfl rfl rfl (by rw [typeLookup_type, builtinLookup_eq_fast]; kernel_rfl) (fun ds => by walk_at "vum") ?_
  intro DS
  walk_at "vs"
  refine EV.call ?_
  walk_at "vs"
  refine ⟨_, (fun Z v h => h), ?_⟩
  walk_at "vs"
  refine ⟨Keep.cls (kin52 G') (by kernel_rfl), ?_⟩
  refine CALL.make (K := K52 X.w.params) (fI := 28) (kin52 G') (by kernel_rfl) (by kernel_rfl) (by kernel_rfl) hR ?_
  intro A' x dx hA'
  have G2 : G3 ((X.callee (f141 X.w.params).1 L 141).at A') := ⟨G'.K0, G'.lim, G'.b, G'.g⟩
  refine sp_28 G2 hA' rfl ?_
  intro pb
  refine ⟨rfl, ?_⟩
  walk_at "vs"
  refine ⟨Str.ofString "signs", gl, by walk_at "vm", ?_⟩
  exact h ⟨x, dx, pb, S, DS, R, c1, c2, L + 1, gl, _, _⟩ _ ⟨rfl, ⟨_, rfl⟩, rfl, _, _, rfl⟩
end

end
section
set_option compiler.extract_closed false
set_option maxHeartbeats 1000000


theorem codeEq (c : Nat) (x : Nat) : ((⟨#[c]⟩ : Str) == (⟨#[x]⟩ : Str)) = decide (c = x) := by
  by_cases h : c = x
  · subst h; simp
  · have : ((⟨#[c]⟩ : Str) ≠ ⟨#[x]⟩) := fun e => h (by simpa using congrArg Str.cps e)
    rw [beq_eq_false_iff_ne.mpr this]; simp [h]
section
variable {X : Cx} {σ : St} {k : Nat} {P : V → St → Prop}
theorem sp_read (G : G3 X) (hA : Rm X.A (k + 1)) {a : LxA} (hok : LxOk X.w.params a) {i : Int} {t : List Nat} {p : List V} {pre post : List (Addr × Cell)} (hm : σ.mem = pre ++ lexM (qL X.w.params) a i t p ++ post) (hs : t.length ≤ sizeLine)
    (h0 : t = [] → P (.str "") σ) (h1 : ∀ c t', t = c :: t' → P (one c) { σ with mem := pre ++ lexM (qL X.w.params) a i t' p ++ post }) : CALLR X (.ref a.R) [.int 1] σ P := by
  obtain ⟨_, _, _, nm, ctv, eR⟩ := hok
  have hR : (a.R, Cell.raw (· = a.oR)) ∈ σ.mem := by rw [hm]; walk_at "vm"
  have hc2 : (a.c2, Cell.raw (codeIs (qL X.w.params))) ∈ σ.mem := by rw [hm]; walk_at "vm"
  have hcc : (a.c, Cell.raw (cellIs a.gl)) ∈ σ.mem := by rw [hm]; walk_at "vm"
  have hgl : (a.gl, Cell.list (t.map one).reverse) ∈ σ.mem := by rw [hm]; walk_at "vm"
  rw [eR] at hR
  refine CALLR.lam (ps := [Str.ofString "size"]) hA G.lim hR rfl rfl rfl hc2 ?_ rfl ?_ ?_ ?_ (by kernel_rfl) (by kernel_rfl) (by kernel_rfl)
  · intro vs hv
    rcases vs with _ | ⟨v1, _ | _⟩ <;> simp at hv
    kernel_rfl
  · intro x hx
    have := List.all_eq_true.mp (show List.all _ (fun x : Str × NameKind => !(x.2 == NameKind.cell)) = true by kernel_rfl) x hx
    intro e; rw [e] at this; cases this
  · intro x hx
    simp only [List.mem_singleton] at hx
    subst hx
    kernel_rfl
  intro L
  refine EV.ife ?_
  refine ET.val ?_
  refine EV.capM (g := a.gl) (by kernel_rfl) (c := a.c) (by kernel_rfl) hcc ?_
  refine TRU.cell hgl ?_ (by simpa using hs)
  cases t with
  | nil =>
    rw [if_neg (by decide)]
    walk_at "vs"
    exact h0 rfl
  | cons c t' =>
    rw [if_pos (by simp)]
    rw [List.map_cons, List.reverse_cons] at hgl
    refine EV.meth "list" "list.pop" F.plainAttrs_list F.slot_list_pop F.type_list_pop ?_
    refine EV.capM (g := a.gl) (by kernel_rfl) (c := a.c) (by kernel_rfl) hcc ?_
    refine ⟨TypeV.cell hgl, ?_⟩
    walk_at "vs"
    refine CALL.pop hgl (by rw [hm]; walk_at "vum") ?_ (by simpa using hs)
    exact h1 c t' rfl
theorem sp_35 (G : G3 X) (hA : Rm X.A (k + 2)) {a : LxA} (hok : LxOk X.w.params a) {i : Int} {t : List Nat} {p : List V} {pre post : List (Addr × Cell)} (hm : σ.mem = pre ++ lexM (qL X.w.params) a i t p ++ post) (hs : t.length ≤ sizeLine)
    (h0 : t = [] → P (.str "") σ) (h1 : ∀ c t', t = c :: t' → P (one c) { σ with mem := pre ++ lexM (qL X.w.params) a (i + if c = 10 then 1 else 0) t' p ++ post }) : CALLR X (.ref 35) [.ref a.L] σ P := by
  refine CALLR.def (ps := [Str.ofString "self"]) (loc := [(Str.ofString "self", some (.ref a.L)), (Str.ofString "ch", none)]) (cel := []) (sub := σ.mem) (rest := []) hA G.lim (G.K _ _ (o35 _).2) (cls_ne (n := "function") (by kernel_rfl)) (f35 X.w.params).2 (b35 _).2 (by kernel_rfl) ⟨34, _, _, _, rfl, G.K _ _ (o34 _).2, rfl, rfl⟩ ?_ rfl (by kernel_rfl) ⟨rfl, trivial⟩ trivial (List.append_nil _).symm ?_ (by kernel_rfl) (by kernel_rfl) (by kernel_rfl)
  · intro vs hv
    rcases vs with _ | ⟨v1, _ | _⟩ <;> simp at hv
    kernel_rfl
  intro L
  have hR : Rm (X.callee (f35 X.w.params).1 L 35).A (k + 1) := hA.deeper
  have hh : (X.callee (f35 X.w.params).1 L 35).A.handled = none := hR.handled
  have G' : G3 (X.callee (f35 X.w.params).1 L 35) := G.callee
  obtain ⟨oScls, ⟨fdS, oSd⟩, oSdict, hok'⟩ := id hok
  have hx : (a.L, Cell.raw (· = instObj 52 a.dx)) ∈ σ.mem := by rw [hm]; walk_at "vm"
  have hd : (a.dx, Cell.ns (nsL a i)) ∈ σ.mem := by rw [hm]; walk_at "vm"
  have hS : (a.S, Cell.raw (· = a.oS)) ∈ σ.mem := by rw [hm]; walk_at "vm"
  have hDS : (a.DS, Cell.ns [(Str.ofString "read", V.ref a.R)]) ∈ σ.mem := by rw [hm]; walk_at "vm"
  have hRR : (a.R, Cell.raw (· = a.oR)) ∈ σ.mem := by rw [hm]; walk_at "vm"
  obtain ⟨nm, ctv, eR⟩ := hok'
  have hRd : a.oR.data = _ := congrArg Obj.data eR
  walk_at "vs"
  refine EV.methF (by rw [typeLookup_type, builtinLookup_eq_fast]; kernel_rfl) ?_
  refine EV.attrI 52 51 _ (cls52 G') (by kernel_rfl) (by kernel_rfl) (by rw [typeLookup_type, builtinLookup_eq_fast]; kernel_rfl) ?_
  walk_at "vs"
  refine ⟨a.L, a.dx, nsL a i, .ref a.S, rfl, hx, hd, by walk_at "vm", (fun Z v hv => by cases hv; exact handedOut_of rfl), ?_⟩
  refine ⟨a.S, a.oS, fdS, a.DS, a.R, rfl, hS, oScls, oSd, oSdict, hDS, ?_⟩
  walk_at "vs"
  refine ⟨Keep.mem hRR hRd, ?_⟩
  refine CALLR.call (sp_read (k := k) G' hR hok hm hs ?_ ?_)
  · intro ht
    walk_at "vs"
    rw [if_neg (by decide)]
    walk_at "vs"
    rw [List.append_nil]; exact h0 ht
  · intro c t' ht
    subst ht
    walk_at "vs"
    rw [show (Str.ofString "
") = ⟨#[10]⟩ by rfl, codeEq]
    by_cases hc : c = 10
    · rw [if_pos (by simpa using hc)]
      walk_at "vs"
      refine ES.augAttr ?_
      walk_at "vs"
      refine ⟨a.L, rfl, ?_⟩
      refine GA.inst 52 51 _ (cls52 G') (by kernel_rfl) (by kernel_rfl) (by rw [typeLookup_type, builtinLookup_eq_fast]; kernel_rfl) (by walk_at "vm") (by walk_at "vm") (d' := .int i) (by walk_at "vm") (fun Z v hv => by obtain ⟨t, rfl⟩ := hv; rfl) ?_
      walk_at "vs"
      refine SETA.inst 52 51 _ (cls52 G') (by kernel_rfl) (by kernel_rfl) (by rw [typeLookup_type, builtinLookup_eq_fast]; kernel_rfl) (by walk_at "vm") (by walk_at "vm") (.hit (by simp only [List.map]; decide +kernel)) (by walk_at "vum") (Nat.le_of_ble_eq_true rfl) ?_
      walk_at "vs"
      have q := h1 c t' rfl
      rw [if_pos hc] at q
      rw [List.append_nil]
      exact q
    · rw [if_neg (by simpa using hc)]
      walk_at "vs"
      have q := h1 c t' rfl
      rw [if_neg hc, Int.add_zero] at q
      rw [List.append_nil]
      exact q
end

end
section
set_option compiler.extract_closed false
set_option maxHeartbeats 1000000


noncomputable def wsB (c : Nat) : Bool := decide (c ∈ wsF.cps.toList)
noncomputable def scan (st : Nat → Bool) : List Nat → List Nat × List Nat
  | [] => ([], [])
  | [c] => if st c then ([], []) else if c = 92 then ([], []) else ([c], [])
  | c :: d :: t => if st c then ([], d :: t) else if c = 92 then (d :: (scan st t).1, (scan st t).2) else (c :: (scan st (d :: t)).1, (scan st (d :: t)).2)
noncomputable def tokT (t : List Nat) : List Nat × List Nat := match t.dropWhile wsB with
  | [] => ([], [])
  | c :: r => if c = 34 then scan (fun c => c == 34) r else scan wsB (c :: r)
theorem scan_stop {st : Nat → Bool} {c : Nat} {t : List Nat} (h : st c = true) : scan st (c :: t) = ([], t) := by cases t <;> simp [scan, h]
theorem scan_esc0 {st : Nat → Bool} : (scan st [92]) = ([], []) := by simp [scan]
theorem scan_esc {st : Nat → Bool} {d : Nat} {t : List Nat} (h : st 92 = false) : scan st (92 :: d :: t) = (d :: (scan st t).1, (scan st t).2) := by simp [scan, h]
theorem scan_one {st : Nat → Bool} {c : Nat} {t : List Nat} (h : st c = false) (hc : c ≠ 92) : scan st (c :: t) = (c :: (scan st t).1, (scan st t).2) := by cases t <;> simp [scan, h, hc]
theorem scan_len {st : Nat → Bool} : ∀ t : List Nat, (scan st t).1.length + (scan st t).2.length ≤ t.length
  | [] => by simp [scan]
  | [c] => by unfold scan; split <;> (try split) <;> simp
  | c :: d :: t => by
    have h1 := scan_len (st := st) t
    have h2 := scan_len (st := st) (d :: t)
    unfold scan
    split
    · simp
    · split
      · simp at h1 ⊢; omega
      · simp at h2 ⊢; omega
theorem tokT_ws {c : Nat} {t : List Nat} (h : wsB c = true) : tokT (c :: t) = tokT t := by unfold tokT; rw [List.dropWhile_cons_of_pos h]
theorem tokT_quote {t : List Nat} : tokT (34 :: t) = scan (fun c => c == 34) t := by unfold tokT; rw [List.dropWhile_cons_of_neg (by decide)]; rfl
theorem tokT_other {c : Nat} {t : List Nat} (h : wsB c = false) (hc : c ≠ 34) : tokT (c :: t) = scan wsB (c :: t) := by unfold tokT; rw [List.dropWhile_cons_of_neg (by simp [h])]; simp [hc]
theorem dropWhile_le (f : Nat → Bool) : ∀ t : List Nat, (t.dropWhile f).length ≤ t.length
  | [] => by simp
  | c :: t => by
    have := dropWhile_le f t
    by_cases h : f c = true
    · rw [List.dropWhile_cons_of_pos h]; simp <;> omega
    · rw [List.dropWhile_cons_of_neg h]; simp
theorem tokT_len (t : List Nat) : (tokT t).1.length + (tokT t).2.length ≤ t.length := by
  unfold tokT
  have h := dropWhile_le wsB t
  split
  · simp
  · rename_i c r e
    rw [e] at h
    simp at h
    split
    · have := scan_len (st := fun c => c == 34) r; omega
    · have := scan_len (st := wsB) (c :: r); simp at this; omega
noncomputable def tx (l : List Nat) : Str := ⟨l.toArray⟩
theorem tx_len (l : List Nat) : (tx l).length = l.length := by simp [tx, Str.length]
theorem tx_add (l : List Nat) (c : Nat) : tx l ++ ⟨#[c]⟩ = tx (l ++ [c]) := by
  show (Str.mk _) = _
  unfold tx
  simp
theorem tx_nil (l : List Nat) : tx l ++ (Str.ofString "") = tx l := by
  show (Str.mk _) = _
  unfold tx
  congr 1
theorem nl_cons (c : Nat) (t : List Nat) : nl (c :: t) = (if c = 10 then 1 else 0) + nl t := by
  unfold nl
  rw [List.count_cons]
  by_cases h : c = 10 <;> simp [h] <;> omega
section
variable {X : Cx} {σ : St} {k : Nat}
theorem lex_next {P : Option V → St → Prop} (G : G3 X) (hA : Rm X.A (k + 3)) {a : LxA} (hok : LxOk X.w.params a) {i : Int} {t : List Nat} {p : List V} {pre post : List (Addr × Cell)} {b I : Addr}
    (hm : σ.mem = pre ++ lexM (qL X.w.params) a i t p ++ (post ++ [(b, .raw (· = methodObj (.ref 35) (.ref a.L))), (I, .raw (itIs b))])) (hs : t.length ≤ sizeLine)
    (h0 : t = [] → P Option.none { σ with mem := pre ++ lexM (qL X.w.params) a i [] p ++ (post ++ [(b, .raw (· = methodObj (.ref 35) (.ref a.L))), (I, .raw itEnd)]) })
    (h1 : ∀ c t', t = c :: t' → P (some (one c)) { σ with mem := pre ++ lexM (qL X.w.params) a (i + if c = 10 then 1 else 0) t' p ++ (post ++ [(b, .raw (· = methodObj (.ref 35) (.ref a.L))), (I, .raw (itIs b))]) }) : NEXT X I σ P := by
  have hb : (b, Cell.raw (· = methodObj (.ref 35) (.ref a.L))) ∈ σ.mem := by rw [hm]; walk_at "vm"
  have hI : (I, Cell.raw (itIs b)) ∈ σ.mem := by rw [hm]; walk_at "vm"
  refine NEXT.call hA hI hb (G.K _ _ (o35 _).2) (f35 X.w.params).2 (cls_ne (n := "function") (by kernel_rfl)) fun A' hA' => ?_
  have G' : G3 (X.at A') := ⟨G.K0, G.lim, G.b, G.g⟩
  refine sp_35 (k := k) G' hA' hok hm hs (fun ht => ?_) fun c t' ht => ?_
  · refine ⟨_, rfl, hI, hb, fun h => absurd rfl h, fun _ => ⟨_, by rw [hm]; walk_at "vum", ?_⟩⟩
    subst ht
    exact h0 rfl
  · refine ⟨_, rfl, by walk_at "vm", by walk_at "vm", fun _ => h1 c t' ht, fun h => ?_⟩
    exact absurd (congrArg (fun x : Str => x.cps.size) h) (by simp; decide)
variable {P : V → St → Prop}
noncomputable def lexST (X : Cx) (a : LxA) (b I : Addr) (pre post : List (Addr × Cell)) (acc t' : List Nat) (x : Option V) (i' : Int) (it : Obj → Prop) : St := ⟨[(Str.ofString "self", some (.ref a.L)), (Str.ofString "token", some (.str (tx acc))), (Str.ofString "fiter", some (.ref I)), (Str.ofString "ch", x)], [], [], pre ++ lexM (qL X.w.params) a i' t' [] ++ (post ++ [(b, .raw (· = methodObj (.ref 35) (.ref a.L))), (I, .raw it)])⟩
noncomputable def forBody : Stmt → List Stmt | .For _ _ b _ _ => b | _ => []
noncomputable def ifThen : Stmt → List Stmt | .If _ b _ _ => b | _ => []
noncomputable def ifElse : Stmt → List Stmt | .If _ _ o _ => o | _ => []
noncomputable def forW (P : Params) : Stmt := stOf (ifElse (stOf (forBody (stOf (b42 P).1 3)) 1)) 2
noncomputable def forQ (P : Params) : Stmt := stOf (ifThen (stOf (forBody (stOf (b42 P).1 3)) 1)) 0
theorem get_w (G : G3 X) (hA : Rm X.A (k + 5)) {a : LxA} (hok : LxOk X.w.params a) {L b I : Addr} {t : List Nat} {i : Int} {pre post : List (Addr × Cell)} (hs : t.length ≤ sizeLine) {K : Fl → St → Prop} {acc0 t2 : List Nat} {x0 : Option V} {i0 : Int}
    (e0 : tokT t = (acc0 ++ (scan wsB t2).1, (scan wsB t2).2)) (hi0 : i0 = i + nl t - nl t2) (hl0 : t2.length + 1 ≤ t.length)
    (kn : ∀ acc x i', tokT t = (acc, []) → i' = i + nl t → K .next (lexST X a b I pre post acc [] x i' itEnd))
    (kr : ∀ acc r x i', tokT t = (acc, r) → i' = i + nl t - nl r → K (.ret (.str (tx acc))) (lexST X a b I pre post acc r x i' (itIs b))) :
    ES (X.callee (f42 X.w.params).1 L 42) (forW X.w.params) (lexST X a b I pre post acc0 t2 x0 i0 (itIs b)) K := by
  have hR : Rm (X.callee (f42 X.w.params).1 L 42).A (k + 4) := hA.deeper
  have hh : (X.callee (f42 X.w.params).1 L 42).A.handled = none := hR.handled
  have G' : G3 (X.callee (f42 X.w.params).1 L 42) := G.callee
  have tl := tokT_len t
  unfold lexST
  refine ES.forI ?_
  walk_at "vs"
  refine ⟨I, rfl, .inl ⟨b, by walk_at "vm"⟩, fun n σ1 => ∃ acc1 t1 x i1, n = t1.length + 1 ∧ σ1 = lexST X a b I pre post acc1 t1 x i1 (itIs b) ∧ tokT t = (acc1 ++ (scan wsB t1).1, (scan wsB t1).2) ∧ i1 = i + nl t - nl t1 ∧ t1.length + 1 ≤ t.length, ⟨_, acc0, t2, _, _, rfl, rfl, e0, hi0, hl0⟩, ?_⟩
  rintro n1 σ1 ⟨acc1, t1, x1, i1, rfl, rfl, e1, hi1, hl1⟩
  simp only [lexST]
  refine lex_next (k := k + 1) G' hR hok rfl (by omega) ?_ ?_
  · intro ht
    subst ht
    refine ⟨.inr (by walk_at "vm"), ?_⟩
    walk_at "vs"
    exact kn acc1 _ _ (by simpa [scan] using e1) (by rw [hi1]; simp [nl])
  · intro c1 t4 ht
    subst ht
    refine ⟨.inl ⟨b, by walk_at "vm"⟩, ?_⟩
    try simp only [lexST]
    walk_at "vs"
    refine EV.attrI 52 51 _ (cls52 G') (by kernel_rfl) (by kernel_rfl) (by rw [typeLookup_type, builtinLookup_eq_fast]; kernel_rfl) ?_
    walk_at "vs"
    refine ⟨a.L, a.dx, nsL a _, .str wsF, rfl, by walk_at "vm", by walk_at "vm", by walk_at "vm", (fun Z v hv => by obtain ⟨t, rfl⟩ := hv; rfl), ?_⟩
    refine CMP.inS ?_
    walk_at "vs"
    by_cases hs1 : wsB c1 = true
    · rw [if_pos (show decide (c1 ∈ wsF.cps.toList) = true from hs1)]
      walk_at "vs"
      rw [scan_stop (st := wsB) hs1] at e1
      exact kr acc1 t4 _ _ (by simpa using e1) (by rw [hi1, nl_cons]; omega)
    have hs1' : wsB c1 = false := by simpa using hs1
    rw [if_neg (show ¬ decide (c1 ∈ wsF.cps.toList) = true from hs1)]
    walk_at "vs"
    first | rw [codeEq] | rw [show (Str.ofString "\\") = ⟨#[92]⟩ by rfl, codeEq]
    by_cases h92 : c1 = 92
    · rw [if_pos (by simpa using h92)]
      subst h92
      walk_at "vs"
      refine EV.methU (y := Option.none) 52 51 _ 35 (cls52 G') (by kernel_rfl) (by kernel_rfl) (by kernel_rfl) (G'.K _ _ (o35 _).2) (by kernel_rfl) (by rw [typeLookup_type, builtinLookup_eq_fast]; kernel_rfl) ?_
      walk_at "vs"
      refine ⟨a.L, a.dx, nsL a _, rfl, by walk_at "vm", by walk_at "vm", (by simp only [List.map]; decide +kernel), ?_⟩
      walk_at "vs"
      refine ⟨Keep.func (G'.K _ _ (o35 _).2) (f35 X.w.params).2 (cls_ne (n := "function") (by kernel_rfl)), ?_⟩
      refine CALLR.call (sp_35 (k := k) G' (hR.le (by omega)) hok rfl (by simp at hl1; omega) ?_ ?_)
      · intro ht
        subst ht
        rw [scan_esc0] at e1
        walk_at "vs"
        refine INP.adds ?_ (by have := tx_len acc1; rw [e1] at tl; simp at tl; rw [this]; show acc1.length + 0 ≤ _; omega)
        rw [tx_nil]
        walk_at "vs"
        exact ⟨_, by simp, acc1, [], _, _, rfl, rfl, by simpa [scan] using e1, by rw [hi1, nl_cons]; simp <;> omega, by simp at hl1 ⊢; omega⟩
      · intro d t5 ht
        subst ht
        rw [scan_esc (st := wsB) hs1'] at e1
        walk_at "vs"
        refine INP.adds ?_ (by have := tx_len acc1; rw [e1] at tl; simp at tl; rw [this]; show acc1.length + 1 ≤ _; omega)
        rw [tx_add]
        walk_at "vs"
        exact ⟨t5.length + 1, by simp, acc1 ++ [d], t5, _, _, rfl, rfl, by simpa using e1, by rw [hi1, nl_cons, nl_cons]; simp <;> omega, by simp at hl1 ⊢; omega⟩
    · rw [if_neg (by simpa using h92)]
      rw [scan_one (st := wsB) hs1' h92] at e1
      walk_at "vs"
      refine INP.adds ?_ (by have := tx_len acc1; rw [e1] at tl; simp at tl; rw [this]; show acc1.length + 1 ≤ _; omega)
      rw [tx_add]
      walk_at "vs"
      exact ⟨t4.length + 1, by simp, acc1 ++ [c1], t4, _, _, rfl, rfl, by simpa using e1, by rw [hi1, nl_cons]; omega, by simp at hl1 ⊢; omega⟩
theorem get_q (G : G3 X) (hA : Rm X.A (k + 5)) {a : LxA} (hok : LxOk X.w.params a) {L b I : Addr} {t : List Nat} {i : Int} {pre post : List (Addr × Cell)} (hs : t.length ≤ sizeLine) {K : Fl → St → Prop} {acc0 t2 : List Nat} {x0 : Option V} {i0 : Int}
    (e0 : tokT t = (acc0 ++ (scan (fun c : Nat => c == 34) t2).1, (scan (fun c : Nat => c == 34) t2).2)) (hi0 : i0 = i + nl t - nl t2) (hl0 : t2.length + 1 ≤ t.length)
    (kn : ∀ acc x i', tokT t = (acc, []) → i' = i + nl t → K .next (lexST X a b I pre post acc [] x i' itEnd))
    (kr : ∀ acc r x i', tokT t = (acc, r) → i' = i + nl t - nl r → K (.ret (.str (tx acc))) (lexST X a b I pre post acc r x i' (itIs b))) :
    ES (X.callee (f42 X.w.params).1 L 42) (forQ X.w.params) (lexST X a b I pre post acc0 t2 x0 i0 (itIs b)) K := by
  have hR : Rm (X.callee (f42 X.w.params).1 L 42).A (k + 4) := hA.deeper
  have hh : (X.callee (f42 X.w.params).1 L 42).A.handled = none := hR.handled
  have G' : G3 (X.callee (f42 X.w.params).1 L 42) := G.callee
  have tl := tokT_len t
  unfold lexST
  refine ES.forI ?_
  walk_at "vs"
  refine ⟨I, rfl, .inl ⟨b, by walk_at "vm"⟩, fun n σ1 => ∃ acc1 t1 x i1, n = t1.length + 1 ∧ σ1 = lexST X a b I pre post acc1 t1 x i1 (itIs b) ∧ tokT t = (acc1 ++ (scan (fun c : Nat => c == 34) t1).1, (scan (fun c : Nat => c == 34) t1).2) ∧ i1 = i + nl t - nl t1 ∧ t1.length + 1 ≤ t.length, ⟨_, acc0, t2, _, _, rfl, rfl, e0, hi0, hl0⟩, ?_⟩
  rintro n1 σ1 ⟨acc1, t1, x1, i1, rfl, rfl, e1, hi1, hl1⟩
  simp only [lexST]
  refine lex_next (k := k + 1) G' hR hok rfl (by omega) ?_ ?_
  · intro ht
    subst ht
    refine ⟨.inr (by walk_at "vm"), ?_⟩
    walk_at "vs"
    exact kn acc1 _ _ (by simpa [scan] using e1) (by rw [hi1]; simp [nl])
  · intro c1 t4 ht
    subst ht
    refine ⟨.inl ⟨b, by walk_at "vm"⟩, ?_⟩
    try simp only [lexST]
    walk_at "vs"
    first | rw [codeEq] | rw [show (Str.ofString "\"") = ⟨#[34]⟩ by rfl, codeEq]
    by_cases hs1 : (fun c : Nat => c == 34) c1 = true
    · rw [if_pos (by simpa using hs1)]
      walk_at "vs"
      rw [scan_stop (st := (fun c : Nat => c == 34)) hs1] at e1
      exact kr acc1 t4 _ _ (by simpa using e1) (by rw [hi1, nl_cons]; omega)
    have hs1' : (fun c : Nat => c == 34) c1 = false := by simpa using hs1
    rw [if_neg (by simpa using hs1)]
    walk_at "vs"
    first | rw [codeEq] | rw [show (Str.ofString "\\") = ⟨#[92]⟩ by rfl, codeEq]
    by_cases h92 : c1 = 92
    · rw [if_pos (by simpa using h92)]
      subst h92
      walk_at "vs"
      refine EV.methU (y := Option.none) 52 51 _ 35 (cls52 G') (by kernel_rfl) (by kernel_rfl) (by kernel_rfl) (G'.K _ _ (o35 _).2) (by kernel_rfl) (by rw [typeLookup_type, builtinLookup_eq_fast]; kernel_rfl) ?_
      walk_at "vs"
      refine ⟨a.L, a.dx, nsL a _, rfl, by walk_at "vm", by walk_at "vm", (by simp only [List.map]; decide +kernel), ?_⟩
      walk_at "vs"
      refine ⟨Keep.func (G'.K _ _ (o35 _).2) (f35 X.w.params).2 (cls_ne (n := "function") (by kernel_rfl)), ?_⟩
      refine CALLR.call (sp_35 (k := k) G' (hR.le (by omega)) hok rfl (by simp at hl1; omega) ?_ ?_)
      · intro ht
        subst ht
        rw [scan_esc0] at e1
        walk_at "vs"
        refine INP.adds ?_ (by have := tx_len acc1; rw [e1] at tl; simp at tl; rw [this]; show acc1.length + 0 ≤ _; omega)
        rw [tx_nil]
        walk_at "vs"
        exact ⟨_, by simp, acc1, [], _, _, rfl, rfl, by simpa [scan] using e1, by rw [hi1, nl_cons]; simp <;> omega, by simp at hl1 ⊢; omega⟩
      · intro d t5 ht
        subst ht
        rw [scan_esc (st := (fun c : Nat => c == 34)) hs1'] at e1
        walk_at "vs"
        refine INP.adds ?_ (by have := tx_len acc1; rw [e1] at tl; simp at tl; rw [this]; show acc1.length + 1 ≤ _; omega)
        rw [tx_add]
        walk_at "vs"
        exact ⟨t5.length + 1, by simp, acc1 ++ [d], t5, _, _, rfl, rfl, by simpa using e1, by rw [hi1, nl_cons, nl_cons]; simp <;> omega, by simp at hl1 ⊢; omega⟩
    · rw [if_neg (by simpa using h92)]
      rw [scan_one (st := (fun c : Nat => c == 34)) hs1' h92] at e1
      walk_at "vs"
      refine INP.adds ?_ (by have := tx_len acc1; rw [e1] at tl; simp at tl; rw [this]; show acc1.length + 1 ≤ _; omega)
      rw [tx_add]
      walk_at "vs"
      exact ⟨t4.length + 1, by simp, acc1 ++ [c1], t4, _, _, rfl, rfl, by simpa using e1, by rw [hi1, nl_cons]; omega, by simp at hl1 ⊢; omega⟩
theorem sp_42 (G : G3 X) (hA : Rm X.A (k + 5)) {a : LxA} (hok : LxOk X.w.params a) {i : Int} {t : List Nat} {p : List V} {pre post : List (Addr × Cell)} (hm : σ.mem = pre ++ lexM (qL X.w.params) a i t p ++ post) (hs : t.length ≤ sizeLine) (hsp : p.length ≤ sizeLine)
    (h0 : p = [] → P (.str (tx (tokT t).1)) { σ with mem := pre ++ lexM (qL X.w.params) a (i + nl t - nl (tokT t).2) (tokT t).2 [] ++ post })
    (h1 : ∀ d p', p = d :: p' → P d { σ with mem := pre ++ lexM (qL X.w.params) a i t p' ++ post }) : CALL X (.ref 42) [.ref a.L] σ P := by
  refine CALL.def (ps := [Str.ofString "self"]) (loc := [(Str.ofString "self", some (.ref a.L)), (Str.ofString "token", none), (Str.ofString "fiter", none), (Str.ofString "ch", none)]) (cel := []) (sub := σ.mem) (rest := []) hA G.lim (G.K _ _ (o42 _).2) (cls_ne (n := "function") (by kernel_rfl)) (f42 X.w.params).2 (b42 _).2 (by kernel_rfl) ⟨41, _, _, _, rfl, G.K _ _ (o41 _).2, rfl, rfl⟩ ?_ rfl (by kernel_rfl) ⟨rfl, trivial⟩ trivial (List.append_nil _).symm ?_ (by kernel_rfl) (by kernel_rfl) (by kernel_rfl)
  · intro vs hv
    rcases vs with _ | ⟨v1, _ | _⟩ <;> simp at hv
    kernel_rfl
  intro L
  have hR : Rm (X.callee (f42 X.w.params).1 L 42).A (k + 4) := hA.deeper
  have hh : (X.callee (f42 X.w.params).1 L 42).A.handled = none := hR.handled
  have G' : G3 (X.callee (f42 X.w.params).1 L 42) := G.callee
  refine EX.drop ?_
  have hx : (a.L, Cell.raw (· = instObj 52 a.dx)) ∈ σ.mem := by rw [hm]; walk_at "vm"
  have hd : (a.dx, Cell.ns (nsL a i)) ∈ σ.mem := by rw [hm]; walk_at "vm"
  have hpb : (a.pb, Cell.list p) ∈ σ.mem := by rw [hm]; walk_at "vm"
  walk_at "vs"
  refine EV.attrI 52 51 _ (cls52 G') (by kernel_rfl) (by kernel_rfl) (by rw [typeLookup_type, builtinLookup_eq_fast]; kernel_rfl) ?_
  walk_at "vs"
  refine ⟨a.L, a.dx, nsL a i, .ref a.pb, rfl, hx, hd, by walk_at "vm", (fun Z v hv => by cases hv; exact handedOut_of rfl), ?_⟩
  refine TRU.cell hpb ?_ hsp
  cases p with
  | cons d p' =>
    rw [if_pos (by simp)]
    walk_at "vs"
    refine EV.meth "list" "list.pop" F.plainAttrs_list F.slot_list_pop F.type_list_pop ?_
    refine EV.attrI 52 51 _ (cls52 G') (by kernel_rfl) (by kernel_rfl) (by rw [typeLookup_type, builtinLookup_eq_fast]; kernel_rfl) ?_
    walk_at "vs"
    refine ⟨a.L, a.dx, nsL a i, .ref a.pb, rfl, hx, hd, by walk_at "vm", (fun Z v hv => by cases hv; exact handedOut_of rfl), ?_⟩
    refine ⟨TypeV.cell hpb, ?_⟩
    walk_at "vs"
    refine CALL.pop0 hpb (by rw [hm]; walk_at "vum") ?_ (by simpa using hsp)
    walk_at "vs"
    refine ⟨_, List.Sublist.refl _, ?_⟩
    rw [List.append_nil]
    exact h1 d p' rfl
  | nil =>
    rw [if_neg (by simp)]
    walk_at "vs"
    refine EV.call ?_
    walk_at "vs"
    refine ⟨_, (fun Z v h => h), ?_⟩
    walk_at "vs"
    refine EV.attrB (y := Option.none) 52 51 _ 35 (cls52 G') (by kernel_rfl) (by kernel_rfl) (by kernel_rfl) (G'.K _ _ (o35 _).2) (by kernel_rfl) (by rw [typeLookup_type, builtinLookup_eq_fast]; kernel_rfl) (by kernel_rfl) ?_
    walk_at "vs"
    refine ⟨a.L, a.dx, nsL a i, rfl, hx, hd, by simp only [List.map]; decide +kernel, fun b => ?_⟩
    walk_at "vs"
    refine ⟨Keep.builtin, ?_⟩
    refine CALL.iter2 (by walk_at "vm") fun I => ?_
    walk_at "vs"
    have hmem : σ.mem ++ [(b, Cell.raw (· = methodObj (.ref 35) (.ref a.L)))] ++ [(I, Cell.raw (itIs b))] = pre ++ lexM (qL X.w.params) a i t [] ++ (post ++ [(b, .raw (· = methodObj (.ref 35) (.ref a.L))), (I, .raw (itIs b))]) := by rw [hm]; simp
    rw [hmem]
    have fin : ∀ (acc r : List Nat) (i' : Int) (tail : List (Addr × Cell)), tokT t = (acc, r) → i' = i + nl t - nl r → ∃ m, m.Sublist (pre ++ lexM (qL X.w.params) a i' r [] ++ (post ++ tail)) ∧ P (.str (tx acc)) { σ with mem := m ++ [] } := by
      intro acc r i' tail e1 e2
      refine ⟨pre ++ lexM (qL X.w.params) a i' r [] ++ post, List.Sublist.append (List.Sublist.refl _) (List.sublist_append_left _ _), ?_⟩
      have := h0 rfl
      rw [e1] at this
      rw [List.append_nil, e2]
      exact this
    have tl := tokT_len t
    let ST : List Nat → List Nat → Option V → Int → (Obj → Prop) → St := fun acc t' x i' it => ⟨[(Str.ofString "self", some (.ref a.L)), (Str.ofString "token", some (.str (tx acc))), (Str.ofString "fiter", some (.ref I)), (Str.ofString "ch", x)], [], [], pre ++ lexM (qL X.w.params) a i' t' [] ++ (post ++ [(b, .raw (· = methodObj (.ref 35) (.ref a.L))), (I, .raw it)])⟩
    let Q2 : Nat → St → Prop := fun n σ1 => (∃ t' x i', n = t'.length + 1 ∧ σ1 = ST [] t' x i' (itIs b) ∧ tokT t' = tokT t ∧ i' = i + nl t - nl t' ∧ t'.length ≤ t.length) ∨ (∃ acc x i', n = 0 ∧ σ1 = ST acc [] x i' itEnd ∧ tokT t = (acc, []) ∧ i' = i + nl t)
    refine ES.forI ?_
    walk_at "vs"
    refine ⟨I, rfl, .inl ⟨b, by walk_at "vm"⟩, Q2, ⟨t.length + 1, .inl ⟨t, Option.none, i, rfl, rfl, rfl, by omega, Nat.le_refl _⟩⟩, ?_⟩
    rintro n σ1 (⟨t', x, i', rfl, rfl, hT, hi, hl⟩ | ⟨acc, x, i', rfl, rfl, hT, hi⟩)
    · refine lex_next (k := k + 1) G' hR hok rfl (Nat.le_trans hl hs) ?_ ?_
      · intro ht
        subst ht
        refine ⟨.inr (by walk_at "vm"), ?_⟩
        walk_at "vs"
        exact fin [] [] i' _ hT.symm hi
      · intro c t2 ht
        subst ht
        refine ⟨.inl ⟨b, by walk_at "vm"⟩, ?_⟩
        simp only [ST]
        walk_at "vs"
        refine EV.attrI 52 51 _ (cls52 G') (by kernel_rfl) (by kernel_rfl) (by rw [typeLookup_type, builtinLookup_eq_fast]; kernel_rfl) ?_
        walk_at "vs"
        refine ⟨a.L, a.dx, nsL a _, .str wsF, rfl, by walk_at "vm", by walk_at "vm", by walk_at "vm", (fun Z v hv => by obtain ⟨t, rfl⟩ := hv; rfl), ?_⟩
        refine CMP.inS ?_
        walk_at "vs"
        by_cases hw : wsB c = true
        · rw [if_pos (show decide (c ∈ wsF.cps.toList) = true from hw)]
          walk_at "vs"
          exact ⟨t2.length + 1, by simp, .inl ⟨t2, _, _, rfl, rfl, by rw [← hT, tokT_ws hw], by rw [hi, nl_cons]; omega, by simp at hl; omega⟩⟩
        have hw' : wsB c = false := by simpa using hw
        rw [if_neg (show ¬ decide (c ∈ wsF.cps.toList) = true from hw)]
        walk_at "vs"
        first | rw [codeEq] | rw [show (Str.ofString "\"") = ⟨#[34]⟩ by rfl, codeEq]
        have hl2 : t2.length + 1 ≤ t.length := by simpa using hl
        by_cases h34 : c = 34
        · rw [if_pos (by simpa using h34)]
          subst h34
          rw [tokT_quote] at hT
          walk_at "vs"
          refine get_q (k := k) (i := i) (t := t) G hA hok hs (acc0 := []) (t2 := t2) (by rw [← hT]; rfl) (by rw [hi, nl_cons]; omega) (by omega) (fun acc x i1 e1 e2 => ?_) (fun acc r x i1 e1 e2 => ?_)
          · walk_at "vs"
            exact ⟨0, by omega, .inr ⟨acc, _, _, rfl, rfl, e1, e2⟩⟩
          · walk_at "vs"
            exact fin acc r _ _ e1 e2
        · rw [if_neg (by simpa using h34)]
          rw [tokT_other hw' h34] at hT
          walk_at "vs"
          first | rw [codeEq] | rw [show (Str.ofString "\\") = ⟨#[92]⟩ by rfl, codeEq]
          by_cases h92 : c = 92
          · rw [if_pos (by simpa using h92)]
            subst h92
            walk_at "vs"
            refine EV.methU (y := Option.none) 52 51 _ 35 (cls52 G') (by kernel_rfl) (by kernel_rfl) (by kernel_rfl) (G'.K _ _ (o35 _).2) (by kernel_rfl) (by rw [typeLookup_type, builtinLookup_eq_fast]; kernel_rfl) ?_
            walk_at "vs"
            refine ⟨a.L, a.dx, nsL a _, rfl, by walk_at "vm", by walk_at "vm", (by simp only [List.map]; decide +kernel), ?_⟩
            walk_at "vs"
            refine ⟨Keep.func (G'.K _ _ (o35 _).2) (f35 X.w.params).2 (cls_ne (n := "function") (by kernel_rfl)), ?_⟩
            refine CALLR.call (sp_35 (k := k) G' (hR.le (by omega)) hok rfl (by omega) ?_ ?_)
            · intro ht
              subst ht
              walk_at "vs"
              refine INP.adds ?_ (Nat.le_of_ble_eq_true rfl)
              rw [tx_nil]
              walk_at "vs"
              refine get_w (k := k) (i := i) (t := t) G hA hok hs (acc0 := []) (t2 := []) (by rw [← hT]; rfl) (by rw [hi, nl_cons]; simp <;> omega) (by simp <;> omega) (fun acc x i1 e1 e2 => ?_) (fun acc r x i1 e1 e2 => ?_)
              · walk_at "vs"
                exact ⟨0, by omega, .inr ⟨acc, _, _, rfl, rfl, e1, e2⟩⟩
              · walk_at "vs"
                exact fin acc r _ _ e1 e2
            · intro d t3 ht
              subst ht
              walk_at "vs"
              refine INP.adds ?_ (Nat.le_of_ble_eq_true rfl)
              rw [tx_add]
              walk_at "vs"
              refine get_w (k := k) (i := i) (t := t) G hA hok hs (acc0 := [d]) (t2 := t3) (by rw [← hT, scan_esc hw']; rfl) (by rw [hi, nl_cons, nl_cons]; simp <;> omega) (by simp at hl2; omega) (fun acc x i1 e1 e2 => ?_) (fun acc r x i1 e1 e2 => ?_)
              · walk_at "vs"
                exact ⟨0, by omega, .inr ⟨acc, _, _, rfl, rfl, e1, e2⟩⟩
              · walk_at "vs"
                exact fin acc r _ _ e1 e2
          · rw [if_neg (by simpa using h92)]
            walk_at "vs"
            refine INP.adds ?_ (Nat.le_of_ble_eq_true rfl)
            rw [tx_add]
            walk_at "vs"
            refine get_w (k := k) (i := i) (t := t) G hA hok hs (acc0 := [c]) (t2 := t2) (by rw [← hT, scan_one hw' h92]; rfl) (by rw [hi, nl_cons]; omega) (by omega) (fun acc x i1 e1 e2 => ?_) (fun acc r x i1 e1 e2 => ?_)
            · walk_at "vs"
              exact ⟨0, by omega, .inr ⟨acc, _, _, rfl, rfl, e1, e2⟩⟩
            · walk_at "vs"
              exact fin acc r _ _ e1 e2
    · refine NEXT.ended hh (by walk_at "vm") ?_
      refine ⟨.inr (by walk_at "vm"), ?_⟩
      walk_at "vs"
      exact fin acc [] i' _ hT (by rw [hi]; simp [nl])
end

end
section
set_option compiler.extract_closed false
set_option maxHeartbeats 1000000


noncomputable def Wn (ws : List Str) (m : Nat) : Str := ws.getD (m % ws.length) ""
noncomputable def turnP (ws : List Str) (j : Nat) : List V := (List.range ws.length).map fun m => V.str (Wn ws (j + m))
noncomputable def turnT (ws : List Str) (j : Nat) : List V := (List.range j).map fun m => V.str (Wn ws m)
theorem turnP_split {ws : List Str} {j : Nat} (h : 0 < ws.length) : ∃ p, turnP ws j = .str (Wn ws j) :: p ∧ turnP ws (j + 1) = p ++ [.str (Wn ws j)] := by
  obtain ⟨n, hn⟩ : ∃ n, ws.length = n + 1 := ⟨ws.length - 1, by walk_at "o"⟩
  refine ⟨(List.range n).map fun m => V.str (Wn ws (j + 1 + m)), ?_, ?_⟩
  · unfold turnP
    rw [hn, List.range_succ_eq_map, List.map_cons, List.map_map]
    congr 1
    refine List.map_congr_left fun m _ => ?_
    simp only [Function.comp]
    congr 2; walk_at "o"
  · unfold turnP
    rw [hn, List.range_succ, List.map_append]
    congr 1
    simp only [List.map_cons, List.map_nil]
    have : Wn ws (j + 1 + n) = Wn ws j := by unfold Wn; rw [show j + 1 + n = j + ws.length by walk_at "o", Nat.add_mod_right]
    rw [this]
theorem turnP_zero (ws : List Str) : turnP ws 0 = ws.map V.str := by
  unfold turnP Wn
  refine List.ext_getElem (by simp) fun i h1 h2 => ?_
  simp at h1 h2
  simp [Nat.mod_eq_of_lt h1, h1]
theorem turnP_two (ws : List Str) : turnP ws (2 * ws.length) = ws.map V.str := by
  rw [← turnP_zero]
  unfold turnP Wn
  refine List.map_congr_left fun m _ => ?_
  rw [Nat.zero_add, Nat.mul_add_mod_self_right]
theorem turnT_two (ws : List Str) : turnT ws (2 * ws.length) = (ws ++ ws).map V.str := by
  unfold turnT Wn
  refine List.ext_getElem (by simp; walk_at "o") fun i h1 h2 => ?_
  simp at h1
  simp only [List.getElem_map, List.getElem_range]
  congr 1
  by_cases h : i < ws.length
  · rw [Nat.mod_eq_of_lt h, List.getElem_append_left h]; simp [h]
  · rw [List.getElem_append_right (by walk_at "o"), Nat.mod_eq_sub_mod (by walk_at "o"), Nat.mod_eq_of_lt (by walk_at "o")]
    simp
    rw [List.getElem?_eq_getElem (by walk_at "o")]; rfl
theorem turnT_succ (ws : List Str) (j : Nat) : turnT ws (j + 1) = turnT ws j ++ [.str (Wn ws j)] := by unfold turnT; rw [List.range_succ, List.map_append]; rfl
section
variable {X : Cx} {σ : St} {k : Nat} {P : V → St → Prop}
theorem sp_156 (G : G3 X) (hA : Rm X.A (k + 6)) {a : LxA} (hok : LxOk X.w.params a) {i : Int} {t : List Nat} {ws : List Str} {pre post : List (Addr × Cell)} (hm : σ.mem = pre ++ lexM (qL X.w.params) a i t [] ++ post) (hs : t.length ≤ sizeLine) (hn : ws.length ≤ 1000)
    (h : P (.tup [.list ((ws ++ ws).map V.str), .list (ws.map V.str ++ [.str (tx (tokT t).1), .str (tx (tokT (tokT t).2).1)])]) { σ with mem := pre ++ lexM (qL X.w.params) a (i + nl t - nl (tokT (tokT t).2).2) (tokT (tokT t).2).2 [] ++ post }) : CALL X (.ref 156) [.ref a.L, V.list (ws.map V.str)] σ P := by
  refine CALL.def (ps := [Str.ofString "lexer", Str.ofString "words"]) (loc := [(Str.ofString "words", some (V.list (ws.map V.str))), (Str.ofString "told", none), (Str.ofString "word", none), (Str.ofString "step", none)]) (cel := [(Str.ofString "lexer", some (.ref a.L))]) (sub := σ.mem) (rest := []) hA G.lim (G.K _ _ (o156 _).2) (cls_ne (n := "function") (by kernel_rfl)) (f156 X.w.params).2 (b156 _).2 (by kernel_rfl) ⟨155, _, _, _, rfl, G.K _ _ (o155 _).2, rfl, rfl⟩ ?_ rfl (by kernel_rfl) ⟨rfl, trivial⟩ ⟨rfl, trivial⟩ (List.append_nil _).symm ?_ (by kernel_rfl) (by kernel_rfl) (by kernel_rfl)
  · intro vs hv
    rcases vs with _ | ⟨v1, _ | ⟨v2, _ | _⟩⟩ <;> simp at hv
    kernel_rfl
  intro L
  have hR : Rm (X.callee (f156 X.w.params).1 L 156).A (k + 5) := hA.deeper
  have hh : (X.callee (f156 X.w.params).1 L 156).A.handled = none := hR.handled
  have G' : G3 (X.callee (f156 X.w.params).1 L 156) := G.callee
  have sl : sizeLine = 2 ^ 24 := by decide
  walk_at "vs"
  refine EV.listM ?_
  walk_at "vss"
  intro D
  walk_at "vs"
  rw [hm]
  refine ES.for hh ?_
  walk_at "vs"
  refine ⟨_, ITER.list hh, fun j σ1 => ∃ x, σ1 = ⟨[(Str.ofString "words", some (V.list (ws.map V.str))), (Str.ofString "told", some (V.ref D)), (Str.ofString "word", x), (Str.ofString "step", none)], [(Str.ofString "lexer", some (V.ref a.L))], [], pre ++ lexM (qL X.w.params) a i t ((ws.take j).map V.str) ++ post ++ [(D, Cell.list [])]⟩, ⟨Option.none, rfl⟩, ?_, ?_⟩
  · rintro j dj σ1 hj ⟨x, rfl⟩
    rw [List.getElem?_map, Option.map_eq_some_iff] at hj
    obtain ⟨w, hw, rfl⟩ := hj
    walk_at "vs"
    refine EV.methU (y := Option.none) 52 51 _ 49 (cls52 (by walk_at "vg")) (by kernel_rfl) (by kernel_rfl) (by kernel_rfl) (G3.K (X := X) G _ _ (o49 _).2) (by kernel_rfl) (by rw [typeLookup_type, builtinLookup_eq_fast]; kernel_rfl) ?_
    walk_at "vs"
    refine ⟨a.L, a.dx, nsL a _, rfl, by walk_at "vm", by walk_at "vm", (by simp only [List.map]; decide +kernel), ?_⟩
    walk_at "vs"
    refine ⟨Keep.func (G3.K (X := X) G _ _ (o49 _).2) (f49 X.w.params).2 (cls_ne (n := "function") (by kernel_rfl)), ?_⟩
    refine sp_49 (k := k) (by walk_at "vg") (hR.le (by walk_at "o")) (by walk_at "vm") (by walk_at "vm") (by walk_at "vm") (by walk_at "vum") ?_ ?_
    · rw [List.length_map, List.length_take]; walk_at "o"
    walk_at "vs"
    refine ⟨some (V.str w), ?_⟩
    rw [take_succ_of hw, List.map_append]
    rfl
  rintro σ1 ⟨x, rfl⟩
  rw [List.length_map, List.take_length]
  walk_at "vs"
  refine ES.for hh ?_
  refine EV.callT (by walk_at "vg") "range" (by walk_at "vbn") ?_
  walk_at "vs"
  refine EV.callB (by walk_at "vg") "len" (by walk_at "vbn") ?_
  walk_at "vs"
  refine CALL.lenL (by rw [List.length_map]; walk_at "o") ?_
  walk_at "vs"
  refine BIN.mul ?_ (by decide)
  walk_at "vs"
  refine CALL.range ?_
  rw [show (2 * (((ws.map V.str).length : Nat) : Int)) = ((2 * ws.length : Nat) : Int) by simp]
  refine ⟨_, ITER.rngN hh (by walk_at "o"), fun j σ1 => ∃ x y, σ1 = ⟨[(Str.ofString "words", some (V.list (ws.map V.str))), (Str.ofString "told", some (V.ref D)), (Str.ofString "word", x), (Str.ofString "step", y)], [(Str.ofString "lexer", some (V.ref a.L))], [], pre ++ lexM (qL X.w.params) a i t (turnP ws j) ++ post ++ [(D, Cell.list (turnT ws j))]⟩, ⟨x, Option.none, by rw [turnP_zero]; rfl⟩, ?_, ?_⟩
  · rintro j dj σ1 hj ⟨x, y, rfl⟩
    rw [List.getElem?_map, Option.map_eq_some_iff] at hj
    obtain ⟨j', hj', rfl⟩ := hj
    have hj1 := (range_at hj').2
    obtain ⟨p, hp1, hp2⟩ := turnP_split (ws := ws) (j := j) (by walk_at "o")
    have hpl : p.length ≤ 1000 := by
      have : (turnP ws j).length = ws.length := by simp [turnP]
      rw [hp1] at this; simp at this; walk_at "o"
    rw [hp1]
    walk_at "vs"
    refine EV.methU (y := Option.none) 52 51 _ 42 (cls52 (by walk_at "vg")) (by kernel_rfl) (by kernel_rfl) (by kernel_rfl) (G3.K (X := X) G _ _ (o42 _).2) (by kernel_rfl) (by rw [typeLookup_type, builtinLookup_eq_fast]; kernel_rfl) ?_
    walk_at "vs"
    refine ⟨a.L, a.dx, nsL a _, rfl, by walk_at "vm", by walk_at "vm", (by simp only [List.map]; decide +kernel), ?_⟩
    walk_at "vs"
    refine ⟨Keep.func (G3.K (X := X) G _ _ (o42 _).2) (f42 X.w.params).2 (cls_ne (n := "function") (by kernel_rfl)), ?_⟩
    refine sp_42 (k := k) G' hR hok (List.append_assoc _ _ _) ?_ ?_ ?_ ?_
    · exact hs
    · simp; walk_at "o"
    · intro h; cases h
    intro d p' hd
    cases hd
    rw [← List.append_assoc]
    walk_at "vs"
    refine EV.meth "list" "list.append" F.plainAttrs_list F.slot_list_append F.type_list_append ?_
    walk_at "vs"
    refine ⟨TypeV.cell (l := turnT ws j) (by walk_at "vm"), ?_⟩
    walk_at "vs"
    refine CALL.append (l := turnT ws j) (by walk_at "vm") (UpM.last _) ?_ (by simp [turnT]; walk_at "o")
    walk_at "vs"
    rw [← turnT_succ]
    refine EV.methU (y := Option.none) 52 51 _ 49 (cls52 (by walk_at "vg")) (by kernel_rfl) (by kernel_rfl) (by kernel_rfl) (G3.K (X := X) G _ _ (o49 _).2) (by kernel_rfl) (by rw [typeLookup_type, builtinLookup_eq_fast]; kernel_rfl) ?_
    walk_at "vs"
    refine ⟨a.L, a.dx, nsL a _, rfl, by walk_at "vm", by walk_at "vm", (by simp only [List.map]; decide +kernel), ?_⟩
    walk_at "vs"
    refine ⟨Keep.func (G3.K (X := X) G _ _ (o49 _).2) (f49 X.w.params).2 (cls_ne (n := "function") (by kernel_rfl)), ?_⟩
    refine sp_49 (k := k) (by walk_at "vg") (hR.le (by walk_at "o")) (by walk_at "vm") (by walk_at "vm") (by walk_at "vm") (by walk_at "vum") ?_ ?_
    · walk_at "o"
    walk_at "vs"
    exact ⟨some (V.str (Wn ws j)), some (nat j'), by rw [hp2]; rfl⟩
  rintro σ1 ⟨x, y, rfl⟩
  rw [List.length_map, List.length_range, turnP_two, turnT_two]
  walk_at "v"
  refine J.frz (a := D) (c := .list ((ws ++ ws).map V.str)) (σ2 := ⟨[(Str.ofString "words", some (V.list (ws.map V.str))), (Str.ofString "told", some (V.list ((ws ++ ws).map V.str))), (Str.ofString "word", x), (Str.ofString "step", y)], [(Str.ofString "lexer", some (V.ref a.L))], [], pre ++ lexM (qL X.w.params) a i t (ws.map V.str) ++ post⟩) ⟨rfl, ⟨_, Cut.last _, .rest⟩, .same (.cons .at (.same (.same .nil))), FzE.refl _, rfl⟩ ?_
  show ES _ _ _ _
  walk_at "vs"
  refine EV.lcs ?_ (by kernel_rfl) (by kernel_rfl) rfl (by intro _; rfl)
  refine EV.callT (by walk_at "vg") "range" (by walk_at "vbn") ?_
  walk_at "vs"
  refine EV.callB (by walk_at "vg") "len" (by walk_at "vbn") ?_
  walk_at "vs"
  refine CALL.lenL (by rw [List.length_map]; walk_at "o") ?_
  walk_at "vs"
  refine CALL.range ?_
  rw [show ((((ws.map V.str).length : Nat) : Int) + 2) = ((ws.length + 2 : Nat) : Int) by simp]
  have e0 : i + nl t - nl t = i := by walk_at "o"
  let T : Nat → List Nat := fun m => if m ≤ ws.length then t else if m = ws.length + 1 then (tokT t).2 else (tokT (tokT t).2).2
  let LL : List V := ws.map V.str ++ [.str (tx (tokT t).1), .str (tx (tokT (tokT t).2).1)]
  refine ⟨_, _, _, (List.range (ws.length + 2)).map nat, fun m => LL.getD m .none, fun m => pre ++ lexM (qL X.w.params) a (i + nl t - nl (T m)) (T m) ((ws.drop m).map V.str) ++ post, ITERC.rngN hh (by walk_at "o"), by walk_at "vsc", by simp; walk_at "o", ?_, ?_, ?_⟩
  · simp only [T]
    rw [if_pos (Nat.zero_le _), e0, List.drop_zero]
  · intro C D' c m di hdi
    rw [List.getElem?_map, Option.map_eq_some_iff] at hdi
    obtain ⟨m', hm', rfl⟩ := hdi
    have hm1 := (range_at hm').2
    have tl1 := tokT_len t
    have tl2 := tokT_len (tokT t).2
    have hT : (T m).length ≤ sizeLine := by simp only [T]; split <;> (try split) <;> walk_at "o"
    walk_at "vs"
    refine EV.methU (y := Option.none) 52 51 _ 42 (cls52 (by walk_at "vg")) (by kernel_rfl) (by kernel_rfl) (by kernel_rfl) (G3.K (X := X) G _ _ (o42 _).2) (by kernel_rfl) (by rw [typeLookup_type, builtinLookup_eq_fast]; kernel_rfl) ?_
    walk_at "vs"
    refine ⟨a.L, a.dx, nsL a _, rfl, by walk_at "vm", by walk_at "vm", (by simp only [List.map]; decide +kernel), ?_⟩
    walk_at "vs"
    refine ⟨Keep.func (G3.K (X := X) G _ _ (o42 _).2) (f42 X.w.params).2 (cls_ne (n := "function") (by kernel_rfl)), ?_⟩
    refine sp_42 (k := k) (G3.comp G') hR hok (pre := pre) (i := i + nl t - nl (T m)) (t := T m) (p := (ws.drop m).map V.str) (post := post ++ [(D', c)]) ?_ ?_ ?_ ?_ ?_
    · exact List.append_assoc _ _ _
    · exact hT
    · simp; walk_at "o"
    · intro h0
      have hge : ws.length ≤ m := by
        have : ws.drop m = [] := by simpa using h0
        simpa using this
      have hd1 : ws.drop (m + 1) = [] := by simp; walk_at "o"
      by_cases hme : m = ws.length
      · have e1 : T m = t := by simp only [T]; rw [if_pos (by walk_at "o")]
        have e2 : T (m + 1) = (tokT t).2 := by simp only [T]; rw [if_neg (by walk_at "o"), if_pos (by walk_at "o")]
        rw [e1]
        refine ⟨?_, by (try dsimp only); walk_at "vwk", by (try dsimp only); walk_at "vwk", rfl, ?_⟩
        · rw [hme]; simp [LL]
        · dsimp only
          rw [e2, hd1, e0]
          exact (List.append_assoc _ _ _).symm
      · have e1 : T m = (tokT t).2 := by simp only [T]; rw [if_neg (by walk_at "o"), if_pos (by walk_at "o")]
        have e2 : T (m + 1) = (tokT (tokT t).2).2 := by simp only [T]; rw [if_neg (by walk_at "o"), if_neg (by walk_at "o")]
        rw [e1]
        refine ⟨?_, by (try dsimp only); walk_at "vwk", by (try dsimp only); walk_at "vwk", rfl, ?_⟩
        · have : m = ws.length + 1 := by walk_at "o"
          subst this
          simp only [LL]
          rw [List.getD_eq_getElem?_getD, List.getElem?_append_right (by simp)]
          simp
        · dsimp only
          rw [e2, hd1]
          rw [show i + nl t - nl (tokT t).2 + nl (tokT t).2 - nl (tokT (tokT t).2).2 = i + nl t - nl (tokT (tokT t).2).2 by walk_at "o"]
          exact (List.append_assoc _ _ _).symm
    · intro d p' hd
      have hlt : m < ws.length := by
        by_cases h : m < ws.length
        · exact h
        · rw [List.drop_eq_nil_of_le (by walk_at "o")] at hd; cases hd
      rw [List.drop_eq_getElem_cons hlt, List.map_cons] at hd
      cases hd
      have e1 : T m = t := by simp only [T]; rw [if_pos (by walk_at "o")]
      have e2 : T (m + 1) = t := by simp only [T]; rw [if_pos (by walk_at "o")]
      rw [e1]
      refine ⟨?_, by (try dsimp only); walk_at "vwk", by (try dsimp only); walk_at "vwk", rfl, ?_⟩
      · simp only [LL]
        rw [List.getD_eq_getElem?_getD, List.getElem?_append_left (by simpa using hlt)]
        simp [hlt]
      · dsimp only
        rw [e2]
        exact (List.append_assoc _ _ _).symm
  have hfin : (List.range ((List.range (ws.length + 2)).map nat).length).map (fun m => LL.getD m .none) = LL := by
    have hLL : LL.length = ws.length + 2 := by simp [LL]
    rw [List.length_map, List.length_range, ← hLL]
    refine List.ext_getElem (by simp) fun j h1 h2 => ?_
    simp at h1
    simp [h1]
  rw [hfin, List.length_map, List.length_range]
  have eT : T (ws.length + 2) = (tokT (tokT t).2).2 := by simp only [T]; rw [if_neg (by walk_at "o"), if_neg (by walk_at "o")]
  have hd2 : ws.drop (ws.length + 2) = [] := by simp
  dsimp only
  rw [eT, hd2]
  walk_at "vss"
  rw [List.append_nil]
  exact h
end

end
section
open PySem PySem.Spec PySem.Calls PyProof.Rows PySem.W PySem.SeqAt
noncomputable def relAt (tall wide : Nat) (x y : Nat) : Str := ((tableF tall wide).getD x []).getD y ""
noncomputable def heapF (tall wide : Nat) (chain : List Int) : List Int :=
  ((List.range (tall * wide)).filter fun x => !(chain.filter fun y => relAt tall wide x y.toNat == "=" || relAt tall wide x y.toNat == "<").isEmpty).map fun x : Nat => (x : Int)
noncomputable def chainsF (ks : List Int) : List (List Int) := (List.range ks.length).map fun t => chainF (((ks ++ ks).drop t).take ks.length) (ks.count 1) (ks.count 2)
noncomputable def insI (x : Int) : List Int → List Int
  | [] => [x]
  | y :: l => if x ≤ y then x :: y :: l else y :: insI x l
noncomputable def srt (l : List Int) : List Int := l.foldr insI []
noncomputable def inI (x : Int) (l : List Int) : Bool := l.any (· == x)
noncomputable def chk1 (tall wide : Nat) (heaps : List (List Int)) (t : Nat) : Bool := (List.range (tall * wide)).all fun x => (inI x (heaps.getD t []) != inI ((tall : Int) * wide - 1 - x) (heaps.getD ((t + x / wide + x % wide + 1) % (tall + wide)) []))
noncomputable def chk2 (tall wide : Nat) (chains heaps : List (List Int)) (t : Nat) : Bool := ((heaps.getD t []).filter fun x => ((heaps.getD t []).filter fun y => relAt tall wide x.toNat y.toNat == "<").isEmpty) == srt (chains.getD t [])
noncomputable def chk3 (tall wide : Nat) (chains heaps : List (List Int)) (t : Nat) : Bool :=
  let after := heaps.getD ((t + 1) % (tall + wide)) []
  ((((List.range (tall * wide)).map fun x : Nat => (x : Int)).filter fun x => !inI x after && ((((List.range (tall * wide)).map fun x : Nat => (x : Int)).filter fun y => !inI y after && relAt tall wide y.toNat x.toNat == "<").isEmpty)) == srt (chains.getD t []))
noncomputable def pats : Nat → List (List Int)
  | 0 => [[]]
  | n + 1 => (pats n).flatMap fun p => [1 :: p, 2 :: p]


end
section
set_option compiler.extract_closed false
set_option maxHeartbeats 1000000


noncomputable def lawFind : List Stmt → Option (Str × Arguments × List Stmt × Scope)
  | [] => none
  | [.FunctionDef n a b _ _ _ s _ _ _] => some (n, a, b, s)
  | _ :: l => lawFind l
noncomputable def lawD : { x : Str × Arguments × List Stmt × Scope // lawFind PySem.Challenge.pw_wz0015_03.main.body = some x } := ⟨(_, _, _, _), rfl⟩
noncomputable def fdLaw (pm cd doc dV kV : Value) : FuncData := { Calls.docDef lawD.1.1 lawD.1.2.1 lawD.1.2.2.1 lawD.1.2.2.2 pm cd doc with defaults := dV, kwdefaults := kV }
noncomputable abbrev lawB : List Stmt := lawD.1.2.2.1
noncomputable def o106 (P : Params) : { o : Obj // (K3 P).lookup 106 = some o } := ⟨k106 P, by kernel_rfl⟩
noncomputable def es106 (P : Params) : { e : Array DictEntry × Nat // (o106 P).1.data = .dict e.1 e.2 } := ⟨(_, _), rfl⟩
noncomputable def ettK : List Str := ["!", "!=", "%", "%=", "&", "&=", "(", ")", "*", "**", "**=", "*=", "+", "+=", ",", "-", "-=", "->", ".", "...", "/", "//", "//=", "/=", ":", ":=", ";", "<", "<<", "<<=", "<=", "=", "==", ">", ">=", ">>", ">>=", "@", "@=", "[", "]", "^", "^=", "{", "|", "|=", "}", "~"].map Str.ofString
noncomputable def ettV : List Int := [54, 28, 24, 40, 19, 41, 7, 8, 16, 35, 46, 38, 14, 36, 12, 15, 37, 51, 23, 52, 17, 47, 48, 39, 11, 53, 13, 20, 33, 44, 29, 22, 27, 21, 30, 34, 45, 49, 50, 9, 10, 32, 43, 25, 18, 42, 26, 31]
structure EttE where
  (s : Str) (ks : Tok) (i : Int) (vt : Tok)
noncomputable def EttE.of (e : DictEntry) : EttE := ⟨match e.key with | .str s _ => s | _ => "", match e.key with | .str _ t => t | _ => 0, match e.val with | .int i _ => i | _ => 0, match e.val with | .int _ t => t | _ => 0⟩
noncomputable def EttE.entry (P : Params) (t : EttE) : DictEntry := ⟨PyData.keyHash P t.s, .str t.s t.ks, .int t.i t.vt⟩
theorem ett_e1 (P : Params) : (es106 P).1.1.toList = ((es106 P).1.1.toList.map EttE.of).map (EttE.entry P) := by kernel_rfl
theorem ett_e2 (P : Params) : ((es106 P).1.1.toList.map EttE.of).map (·.s) = ettK := by kernel_rfl
theorem ett_e3 (P : Params) : ((es106 P).1.1.toList.map EttE.of).map (·.i) = ettV := by kernel_rfl
theorem ett_nd : ettK.Nodup := by decide +kernel
theorem ett_len : ettK.length = 48 := by decide +kernel
theorem ett_at : ∀ s ∈ ettK, (vat ettK ettV s).isSome := by decide +kernel
theorem ett_pairs {prog : Program} {w : World} : ∀ T : List EttE, Pairs (PySem.strKind prog w) (T.map (EttE.entry w.params)) (T.map fun t => (t.s, Value.int t.i t.vt))
  | [] => .nil
  | t :: T => .cons (by simp [PySem.strKind, EttE.entry, Value.isStrOf]) rfl (ett_pairs T)
theorem ett_rel {prog : Program} {w : World} {Z : ZM} : ∀ T : List EttE, VsRel prog w Z ((T.map (·.i)).map V.int) (T.map fun t => Value.int t.i t.vt)
  | [] => rfl
  | t :: T => ⟨_, _, rfl, ⟨t.vt, rfl⟩, ett_rel T⟩
theorem zip_map_map {α β γ : Type} (f : α → β) (g : α → γ) : ∀ T : List α, (T.map f).zip (T.map g) = T.map fun t => (f t, g t)
  | [] => rfl
  | t :: T => by simp [zip_map_map f g T]
section
variable {X : Cx} {σ : St} {k : Nat} {P : V → St → Prop}
theorem EV.ett (G : G3 X) {pos} (h : P (.sdict ettK (ettV.map V.int)) σ) (hg : X.env.globals = mainGlobals := by rfl) (hk : X.env.kindOf (Str.ofString "EXACT_TOKEN_TYPES") = some .globalImplicit := by kernel_rfl) : EV X (.Name (Str.ofString "EXACT_TOKEN_TYPES") pos) σ P := fun Z s r => by
  have h0 : EV X (.Name (Str.ofString "EXACT_TOKEN_TYPES") pos) σ (fun d σ' => d = .ref 106 ∧ σ' = σ) := G3.name G (by unfold GN; simp) ⟨rfl, rfl⟩ hg hk
  refine wpAny_mono (h0 Z s r) (fun v s' ⟨Z1, σ1, d, x, hr, e1, e2⟩ => ?_) fun _ _ h => h
  subst e1 e2
  cases hr
  have hb := G.K _ _ (o106 X.w.params).2
  have hc : (o106 X.w.params).1.cls = .type "dict" := by kernel_rfl
  have hz : Z1 106 = some (o106 X.w.params).1 := x.rel.st _ _ hb fun ⟨o, vs, h1, h2, _⟩ => by rw [hb] at h1; cases h1; rw [hc] at h2; cases h2
  have hT1 := ett_e1 X.w.params
  have hT2 := ett_e2 X.w.params
  have hT3 := ett_e3 X.w.params
  generalize ((es106 X.w.params).1.1.toList.map EttE.of) = T at hT1 hT2 hT3
  refine hereV (d := .sdict ettK (ettV.map V.int)) x ⟨106, T.map fun t => Value.int t.i t.vt, rfl, by decide, ⟨_, _, _, hz, ⟨hc, by kernel_rfl, by kernel_rfl⟩, (es106 _).2, fun e he => ?_, ?_, ?_⟩, ?_, ?_⟩ h
  · have he : e ∈ (es106 X.w.params).1.1.toList := by simpa using he
    rw [hT1] at he
    obtain ⟨t, _, rfl⟩ := List.mem_map.mp he
    exact ⟨t.s, by simp [PySem.strKind, EttE.entry, Value.isStrOf], rfl⟩
  · rw [hT1, ← hT2, zip_map_map]
    exact ett_pairs T
  · rw [← hT2, zip_map_map, List.map_map]
    have : (T.map ((fun x : Str × Value => x.1) ∘ fun t : EttE => (t.s, Value.int t.i t.vt))) = ettK := by rw [← hT2]; rfl
    rw [this]; exact ett_nd
  · rw [← hT2]; simp
  · rw [← hT3]; exact ett_rel T
end

end
section
set_option compiler.extract_closed false
set_option maxHeartbeats 1000000


noncomputable def ownL : List Int := [7, 44, 57, 131, 150, 10, 100, 2717780]
noncomputable def pickI {α : Type} (l : List α) (lo hi st : Option Int) : List α := (sliceRange (sliceBounds lo hi st l.length).1 (sliceBounds lo hi st l.length).2.1 (sliceBounds lo hi st l.length).2.2).filterMap (l[·]?)
theorem pickV_map {α : Type} (f : α → V) (l : List α) (lo hi st : Option Int) : pickV (l.map f) lo hi st = (pickI l lo hi st).map f := by
  unfold pickV pickI
  rw [List.length_map, List.map_filterMap]
  congr 1
  funext j
  rw [List.getElem?_map]
theorem range_len (a b c : Int) (hc : 0 < c) (ha : 0 ≤ a) : (sliceRange a b c).length ≤ (b + (c - 1)).toNat := by
  unfold sliceRange
  rw [List.length_map, List.length_range, if_pos hc]
  split
  · refine Int.toNat_le_toNat (Int.ediv_le_of_le_mul hc ?_)
    have h1 : b - a + c - 1 ≤ b + (c - 1) := by omega
    exact Int.le_trans h1 (by have := Int.mul_le_mul_of_nonneg_left (a := 1) (b := c) (c := b + (c - 1)) hc (by omega); omega)
  · exact Nat.zero_le _
theorem pickI_len {α : Type} (l : List α) (a b c : Int) (lo hi st : Option Int) (e : sliceBounds lo hi st l.length = (a, b, c)) (hc : 0 < c) (ha : 0 ≤ a) : (pickI l lo hi st).length ≤ (b + (c - 1)).toNat := by
  unfold pickI
  rw [e]
  exact Nat.le_trans (List.length_filterMap_le ..) (range_len a b c hc ha)
theorem pick60 {α : Type} (l : List α) : (pickI l none (some 60) none).length ≤ l.length := by
  refine Nat.le_trans (pickI_len l 0 (max 0 (min 60 l.length)) 1 _ _ _ rfl (by decide) (Int.le_refl 0)) ?_
  generalize l.length = n
  omega
theorem pick8 {α : Type} (l : List α) (i : Nat) : (pickI l (some (i : Int)) none (some 8)).length ≤ l.length + 7 := by
  refine Nat.le_trans (pickI_len l (max 0 (min (if (i : Int) < 0 then (i : Int) + l.length else i) l.length)) l.length 8 _ _ _ rfl (by decide) (Int.le_max_left ..)) ?_
  generalize l.length = n
  omega
noncomputable def colI (xs : List Int) (i : Nat) : List Int := pickI (pickI xs none (some 60) none) (some i) none (some 8)
noncomputable def cellI (xs : List Int) (i : Nat) : Int := ownL.getD i 0 + ((colI xs i).map (·.fmod 1000000)).sum
noncomputable def cellN (xs : List Int) (i : Nat) : Nat := (cellI xs i).toNat
noncomputable def szN (xs : List Int) : Nat := 4 + cellN xs 0 % 3
noncomputable def drawnF (xs : List Int) (k : Nat) : Str := ettK.getD (cellN xs (1 + k) % 48) ""
noncomputable def sufL : List Str := [Str.ofString "", Str.ofString " b", Str.ofString "\"\n", Str.ofString "\\"]
noncomputable def wordF (xs : List Int) (k : Nat) : Str := drawnF xs k ++ sufL.getD (cellN xs (1 + k) / 48 % 4) ""
noncomputable def drawnL (xs : List Int) : List Str := (List.range (szN xs)).map (drawnF xs)
noncomputable def wordsL (xs : List Int) : List Str := (List.range (szN xs)).map (wordF xs)
noncomputable def numF (s : Str) : Int := (vat ettK ettV s).getD 0
noncomputable def numsL (xs : List Int) : List Int := (drawnL xs).map numF
noncomputable def txtF (xs : List Int) : Str := StrLaws.sliceText (textF (wordsL xs ++ [Str.ofString "#"]) (cellN xs 7)) none (some (-1))
theorem sum_modB : ∀ l : List Int, 0 ≤ (l.map (·.fmod 1000000)).sum ∧ (l.map (·.fmod 1000000)).sum ≤ 1000000 * l.length
  | [] => by simp
  | x :: l => by
    have h := sum_modB l
    have h1 := Int.fmod_nonneg_of_pos x (show (0 : Int) < 1000000 by decide)
    have h2 := Int.fmod_lt_of_pos x (show (0 : Int) < 1000000 by decide)
    simp only [List.map_cons, List.sum_cons, List.length_cons]
    omega
theorem col_len {xs : List Int} (h : xs.length ≤ 63) (i : Nat) : (colI xs i).length ≤ 77 := by
  have h1 := pick60 xs
  have h2 := pick8 (pickI xs none (some 60) none) i
  unfold colI; omega
theorem ownL_ge : ∀ i < 8, 7 ≤ ownL.getD i 0 ∧ ownL.getD i 0 ≤ 2717780 := by decide
theorem nat_of {a b : Int} {c : Nat} (h1 : 0 ≤ b ∧ b ≤ 1000000 * c) (h2 : c ≤ 77) (h3 : 7 ≤ a ∧ a ≤ 2717780) : a + b = ((a + b).toNat : Int) ∧ (a + b).toNat ≤ 10 ^ 9 := by omega
theorem cellI_nat {xs : List Int} (h : xs.length ≤ 63) {i : Nat} (hi : i < 8) : cellI xs i = (cellN xs i : Int) ∧ cellN xs i ≤ 10 ^ 9 := nat_of (sum_modB (colI xs i)) (col_len h i) (ownL_ge i hi)
theorem ett_short : ∀ s ∈ ettK, s.length ≤ 3 := by decide +kernel
theorem suf_short : ∀ s ∈ sufL, s.length ≤ 2 := by decide +kernel
theorem drawn_mem (xs : List Int) (k : Nat) : drawnF xs k ∈ ettK := by
  unfold drawnF
  have : cellN xs (1 + k) % 48 < ettK.length := by rw [ett_len]; omega
  simp [this]
theorem suf_mem (i : Nat) : sufL.getD (i % 4) "" ∈ sufL := by
  have h : i % 4 < sufL.length := by show i % 4 < 4; omega
  simp [h]
theorem vat_mapV {K : Type} [DecidableEq K] {β γ : Type} (f : β → γ) : ∀ (ks : List K) (l : List β) (k : K), vat ks (l.map f) k = (vat ks l k).map f
  | [], _, _ => rfl
  | _ :: _, [], _ => by simp [vat_nil]
  | a :: ks, b :: l, k => by
    rw [List.map_cons, vat_cons, vat_cons, vat_mapV f ks l k]
    split <;> rfl
theorem num_at {s : Str} (h : s ∈ ettK) : vat ettK (ettV.map V.int) s = some (V.int (numF s)) := by
  have := ett_at s h
  rw [vat_mapV]
  unfold numF
  obtain ⟨v, hv⟩ := Option.isSome_iff_exists.mp this
  rw [hv]; rfl
theorem num_ok : ∀ s ∈ ettK, 7 ≤ numF s ∧ numF s ≤ 54 := by decide +kernel
theorem sz3 : ∀ r < 3, 4 + r = 4 ∨ 4 + r = 5 ∨ 4 + r = 6 := by decide
theorem sz_of (xs : List Int) : szN xs = 4 ∨ szN xs = 5 ∨ szN xs = 6 := sz3 _ (Nat.mod_lt _ (by decide))
theorem sz_le (xs : List Int) : szN xs ≤ 6 := by rcases sz_of xs with h | h | h <;> rw [h] <;> decide
theorem lt4 : ∀ g < 4, g = 0 ∨ g = 1 ∨ g = 2 ∨ g = 3 := by decide
theorem cells_slice (f : Nat → V) {n : Nat} (h : n = 4 ∨ n = 5 ∨ n = 6) : pickV ((List.range 8).map f) (some 1) (some (1 + (n : Int))) none = (List.range n).map fun k => f (1 + k) := by
  rcases h with h | h | h <;> subst h <;> rfl
theorem word_len (xs : List Int) (k : Nat) : (wordF xs k).length ≤ 5 ∧ (drawnF xs k).length ≤ 3 ∧ (sufL.getD (cellN xs (1 + k) / 48 % 4) "").length ≤ 2 := by
  have h1 := ett_short _ (drawn_mem xs k)
  have h2 := suf_short _ (suf_mem (cellN xs (1 + k) / 48))
  refine ⟨?_, h1, h2⟩
  unfold wordF; rw [strLen_append]; omega
theorem drop_getD {α : Type} (d : α) : ∀ (l : List α) (i : Nat), i < l.length → l.drop i = l.getD i d :: l.drop (i + 1)
  | [], _, h => by simp at h
  | a :: l, 0, _ => rfl
  | a :: l, i + 1, h => drop_getD d l i (by simpa using h)
noncomputable def lawS (i : Nat) : Stmt := lawB.getD i (.Pass ⟨0, 0, 0, 0⟩)
theorem lawB_len : lawB.length = 24 := by kernel_rfl
section
variable {X : Cx} {σ : St} {k : Nat} {P : V → St → Prop}
structure LS (X : Cx) (i : Nat) (σ : St) (Q : Fl → St → Prop) : Prop where
  out : ES X (lawS i) σ Q
structure LW (X : Cx) (i : Nat) (σ : St) (Q : Fl → St → Prop) : Prop where
  out : EX X (lawB.drop i) σ Q
noncomputable def nextQ (X : Cx) (i : Nat) (Q : Fl → St → Prop) (f : Fl) (σ : St) : Prop := match f with
  | .next => LW X (i + 1) σ Q
  | f => Q f σ
theorem LW.step {Q : Fl → St → Prop} (i : Nat) (hi : i < 24) (h : LS X i σ (nextQ X i Q)) : LW X i σ Q := by
  refine ⟨?_⟩
  rw [drop_getD (.Pass ⟨0, 0, 0, 0⟩) lawB i (by rw [lawB_len]; exact hi)]
  refine EX.cons (J.mono h.out fun f σ1 hq => ?_)
  cases f with
  | next => exact LW.out hq
  | _ => exact hq
theorem law_0 (G : G3 X) (hA : Rm X.A (k + 9)) {pm cd doc dV kV : Value} {L fa : Addr} {xs : List Int} {m : List (Addr × Cell)} {Q : Fl → St → Prop}  (h : Q .next ⟨[(Str.ofString "text", Option.none), (Str.ofString "few", Option.none), (Str.ofString "ranks", Option.none), (Str.ofString "told", Option.none), (Str.ofString "rest", Option.none), (Str.ofString "chains", Option.none), (Str.ofString "books", Option.none), (Str.ofString "total", Option.none), (Str.ofString "due", Option.none)], [(Str.ofString "script", some (V.list (xs.map V.int))), (Str.ofString "own", some (V.list (ownL.map V.int))), (Str.ofString "cells", Option.none), (Str.ofString "size", Option.none), (Str.ofString "signs", Option.none), (Str.ofString "drawn", Option.none), (Str.ofString "words", Option.none), (Str.ofString "numbers", Option.none), (Str.ofString "edge", Option.none), (Str.ofString "lexer", Option.none), (Str.ofString "symbols", Option.none), (Str.ofString "kinds", Option.none), (Str.ofString "wide", Option.none), (Str.ofString "tall", Option.none), (Str.ofString "table", Option.none), (Str.ofString "spots", Option.none), (Str.ofString "heaps", Option.none), (Str.ofString "t", Option.none), (Str.ofString "after", Option.none)], [], m⟩) : LS (X.callee (fdLaw pm cd doc dV kV) L fa) 0 ⟨[(Str.ofString "text", Option.none), (Str.ofString "few", Option.none), (Str.ofString "ranks", Option.none), (Str.ofString "told", Option.none), (Str.ofString "rest", Option.none), (Str.ofString "chains", Option.none), (Str.ofString "books", Option.none), (Str.ofString "total", Option.none), (Str.ofString "due", Option.none)], [(Str.ofString "script", some (V.list (xs.map V.int))), (Str.ofString "own", Option.none), (Str.ofString "cells", Option.none), (Str.ofString "size", Option.none), (Str.ofString "signs", Option.none), (Str.ofString "drawn", Option.none), (Str.ofString "words", Option.none), (Str.ofString "numbers", Option.none), (Str.ofString "edge", Option.none), (Str.ofString "lexer", Option.none), (Str.ofString "symbols", Option.none), (Str.ofString "kinds", Option.none), (Str.ofString "wide", Option.none), (Str.ofString "tall", Option.none), (Str.ofString "table", Option.none), (Str.ofString "spots", Option.none), (Str.ofString "heaps", Option.none), (Str.ofString "t", Option.none), (Str.ofString "after", Option.none)], [], m⟩ Q := by
  refine ⟨?_⟩
  have hR : Rm (X.callee (fdLaw pm cd doc dV kV) L fa).A (k + 8) := hA.deeper
  have hh : (X.callee (fdLaw pm cd doc dV kV) L fa).A.handled = none := hR.handled
  have G' : G3 (X.callee (fdLaw pm cd doc dV kV) L fa) := G.callee
  have sl : sizeLine = 2 ^ 24 := by decide
  refine ES.asg ?_ (by walk_at "vside") (by walk_at "vside") (by walk_at "vside")
  refine EV.list ?_
  walk_at "vss"
  rw [show [V.int 7, V.int 44, V.int 57, V.int 131, V.int 150, V.int 10, V.int 100, V.int 2717780] = ownL.map V.int from rfl]
  try walk_at "vs"
  exact h
theorem law_1 (G : G3 X) (hA : Rm X.A (k + 9)) {pm cd doc dV kV : Value} {L fa : Addr} {xs : List Int} {m : List (Addr × Cell)} {Q : Fl → St → Prop} (hlen : xs.length ≤ 63) (h : Q .next ⟨[(Str.ofString "text", Option.none), (Str.ofString "few", Option.none), (Str.ofString "ranks", Option.none), (Str.ofString "told", Option.none), (Str.ofString "rest", Option.none), (Str.ofString "chains", Option.none), (Str.ofString "books", Option.none), (Str.ofString "total", Option.none), (Str.ofString "due", Option.none)], [(Str.ofString "script", some (V.list (xs.map V.int))), (Str.ofString "own", some (V.list (ownL.map V.int))), (Str.ofString "cells", some (V.list ((List.range 8).map fun i => nat (cellN xs i)))), (Str.ofString "size", Option.none), (Str.ofString "signs", Option.none), (Str.ofString "drawn", Option.none), (Str.ofString "words", Option.none), (Str.ofString "numbers", Option.none), (Str.ofString "edge", Option.none), (Str.ofString "lexer", Option.none), (Str.ofString "symbols", Option.none), (Str.ofString "kinds", Option.none), (Str.ofString "wide", Option.none), (Str.ofString "tall", Option.none), (Str.ofString "table", Option.none), (Str.ofString "spots", Option.none), (Str.ofString "heaps", Option.none), (Str.ofString "t", Option.none), (Str.ofString "after", Option.none)], [], m⟩) : LS (X.callee (fdLaw pm cd doc dV kV) L fa) 1 ⟨[(Str.ofString "text", Option.none), (Str.ofString "few", Option.none), (Str.ofString "ranks", Option.none), (Str.ofString "told", Option.none), (Str.ofString "rest", Option.none), (Str.ofString "chains", Option.none), (Str.ofString "books", Option.none), (Str.ofString "total", Option.none), (Str.ofString "due", Option.none)], [(Str.ofString "script", some (V.list (xs.map V.int))), (Str.ofString "own", some (V.list (ownL.map V.int))), (Str.ofString "cells", Option.none), (Str.ofString "size", Option.none), (Str.ofString "signs", Option.none), (Str.ofString "drawn", Option.none), (Str.ofString "words", Option.none), (Str.ofString "numbers", Option.none), (Str.ofString "edge", Option.none), (Str.ofString "lexer", Option.none), (Str.ofString "symbols", Option.none), (Str.ofString "kinds", Option.none), (Str.ofString "wide", Option.none), (Str.ofString "tall", Option.none), (Str.ofString "table", Option.none), (Str.ofString "spots", Option.none), (Str.ofString "heaps", Option.none), (Str.ofString "t", Option.none), (Str.ofString "after", Option.none)], [], m⟩ Q := by
  refine ⟨?_⟩
  have hR : Rm (X.callee (fdLaw pm cd doc dV kV) L fa).A (k + 8) := hA.deeper
  have hh : (X.callee (fdLaw pm cd doc dV kV) L fa).A.handled = none := hR.handled
  have G' : G3 (X.callee (fdLaw pm cd doc dV kV) L fa) := G.callee
  have sl : sizeLine = 2 ^ 24 := by decide
  refine ES.asg ?_ (by walk_at "vside") (by walk_at "vside") (by walk_at "vside")
  refine EV.lcm (α := Nat) ?_ (by kernel_rfl) (by kernel_rfl) rfl (by intro _; rfl)
  refine EV.callT (by walk_at "vg") "range" (by walk_at "vbn") ?_
  walk_at "vs"
  refine CALL.range ?_
  refine ⟨_, _, _, List.range 8, nat, fun i => nat (cellN xs i), ITERC.rngN hh (by decide), by walk_at "vsc", by decide, ?_, ?_⟩
  · intro C D c i hi
    have hi8 : i < 8 := by simpa using hi
    walk_at "vs"
    refine SUB.li i 0 rfl hi8 (by decide) ?_
    refine EV.callB (by walk_at "vg") "sum" (by walk_at "vbn") ?_
    walk_at "v"
    refine EV.lcm (α := Int) ?_ (by kernel_rfl) (by kernel_rfl) rfl (by intro _; rfl)
    walk_at "vs"
    refine ⟨_, rfl, ?_⟩
    walk_at "vs"
    refine SUB.sliceL (by rw [List.length_map]; omega) (by decide) ?_
    rw [pickV_map]
    walk_at "vs"
    refine ⟨_, rfl, ?_⟩
    walk_at "vs"
    refine ⟨_, rfl, ?_⟩
    walk_at "vs"
    have hc1 := pick60 xs
    refine SUB.sliceL (by rw [List.length_map]; omega) (by decide) ?_
    rw [pickV_map]
    have hc2 := col_len hlen i
    refine ⟨_, _, _, colI xs i, V.int, fun x => V.int (x.fmod 1000000), ITERC.list hh, by walk_at "vsc", by omega, ?_, ?_⟩
    · intro C2 D2 c2 x hx
      walk_at "vs"
      refine BIN.mod ?_ (by decide)
      exact ⟨rfl, by walk_at "vback"⟩
    rw [show (colI xs i).map (fun x => V.int (x.fmod 1000000)) = ((colI xs i).map (·.fmod 1000000)).map V.int by rw [List.map_map]; rfl]
    walk_at "vs"
    refine CALL.sum hh (by rw [List.length_map]; omega) (fun y hy => ?_) ?_
    · obtain ⟨x, _, rfl⟩ := List.mem_map.mp hy
      have h1 := Int.fmod_nonneg_of_pos x (show (0 : Int) < 1000000 by decide)
      have h2 := Int.fmod_lt_of_pos x (show (0 : Int) < 1000000 by decide)
      omega
    walk_at "vs"
    exact ⟨by show V.int (cellI xs i) = _; rw [(cellI_nat hlen hi8).1], by walk_at "vback"⟩
  walk_at "vs"
  exact h
theorem law_2 (G : G3 X) (hA : Rm X.A (k + 9)) {pm cd doc dV kV : Value} {L fa : Addr} {xs : List Int} {m : List (Addr × Cell)} {Q : Fl → St → Prop}  (h : Q .next ⟨[(Str.ofString "text", Option.none), (Str.ofString "few", Option.none), (Str.ofString "ranks", Option.none), (Str.ofString "told", Option.none), (Str.ofString "rest", Option.none), (Str.ofString "chains", Option.none), (Str.ofString "books", Option.none), (Str.ofString "total", Option.none), (Str.ofString "due", Option.none)], [(Str.ofString "script", some (V.list (xs.map V.int))), (Str.ofString "own", some (V.list (ownL.map V.int))), (Str.ofString "cells", some (V.list ((List.range 8).map fun i => nat (cellN xs i)))), (Str.ofString "size", some (nat (szN xs))), (Str.ofString "signs", some (V.list (ettK.map V.str))), (Str.ofString "drawn", Option.none), (Str.ofString "words", Option.none), (Str.ofString "numbers", Option.none), (Str.ofString "edge", Option.none), (Str.ofString "lexer", Option.none), (Str.ofString "symbols", Option.none), (Str.ofString "kinds", Option.none), (Str.ofString "wide", Option.none), (Str.ofString "tall", Option.none), (Str.ofString "table", Option.none), (Str.ofString "spots", Option.none), (Str.ofString "heaps", Option.none), (Str.ofString "t", Option.none), (Str.ofString "after", Option.none)], [], m⟩) : LS (X.callee (fdLaw pm cd doc dV kV) L fa) 2 ⟨[(Str.ofString "text", Option.none), (Str.ofString "few", Option.none), (Str.ofString "ranks", Option.none), (Str.ofString "told", Option.none), (Str.ofString "rest", Option.none), (Str.ofString "chains", Option.none), (Str.ofString "books", Option.none), (Str.ofString "total", Option.none), (Str.ofString "due", Option.none)], [(Str.ofString "script", some (V.list (xs.map V.int))), (Str.ofString "own", some (V.list (ownL.map V.int))), (Str.ofString "cells", some (V.list ((List.range 8).map fun i => nat (cellN xs i)))), (Str.ofString "size", Option.none), (Str.ofString "signs", Option.none), (Str.ofString "drawn", Option.none), (Str.ofString "words", Option.none), (Str.ofString "numbers", Option.none), (Str.ofString "edge", Option.none), (Str.ofString "lexer", Option.none), (Str.ofString "symbols", Option.none), (Str.ofString "kinds", Option.none), (Str.ofString "wide", Option.none), (Str.ofString "tall", Option.none), (Str.ofString "table", Option.none), (Str.ofString "spots", Option.none), (Str.ofString "heaps", Option.none), (Str.ofString "t", Option.none), (Str.ofString "after", Option.none)], [], m⟩ Q := by
  refine ⟨?_⟩
  have hR : Rm (X.callee (fdLaw pm cd doc dV kV) L fa).A (k + 8) := hA.deeper
  have hh : (X.callee (fdLaw pm cd doc dV kV) L fa).A.handled = none := hR.handled
  have G' : G3 (X.callee (fdLaw pm cd doc dV kV) L fa) := G.callee
  have sl : sizeLine = 2 ^ 24 := by decide
  have hn := sz_of xs
  have hn6 : szN xs ≤ 6 := sz_le xs
  refine ES.asg ?_ (by walk_at "vside") (by walk_at "vside") (by walk_at "vside")
  walk_at "vs"
  refine SUB.li 0 0 rfl (by decide) (by decide) ?_
  walk_at "vs"
  refine BIN.modN 3 ?_ (by decide)
  walk_at "vs"
  refine EV.callT (by walk_at "vg") "list" (by walk_at "vbn") ?_
  refine EVs.cons ?_
  refine EV.ett (by walk_at "vg") ?_
  walk_at "vs"
  refine CALL.listD hh (by rw [ett_len]; decide) ?_
  walk_at "vss"
  rw [show (4 : Int) + ((cellN xs ((List.range 8).getD 0 0) % 3 : Nat) : Int) = ((szN xs : Nat) : Int) from by unfold szN; simp]
  walk_at "vs"
  exact h
theorem law_3 (G : G3 X) (hA : Rm X.A (k + 9)) {pm cd doc dV kV : Value} {L fa : Addr} {xs : List Int} {m : List (Addr × Cell)} {Q : Fl → St → Prop}  (h : Q .next ⟨[(Str.ofString "text", Option.none), (Str.ofString "few", Option.none), (Str.ofString "ranks", Option.none), (Str.ofString "told", Option.none), (Str.ofString "rest", Option.none), (Str.ofString "chains", Option.none), (Str.ofString "books", Option.none), (Str.ofString "total", Option.none), (Str.ofString "due", Option.none)], [(Str.ofString "script", some (V.list (xs.map V.int))), (Str.ofString "own", some (V.list (ownL.map V.int))), (Str.ofString "cells", some (V.list ((List.range 8).map fun i => nat (cellN xs i)))), (Str.ofString "size", some (nat (szN xs))), (Str.ofString "signs", some (V.list (ettK.map V.str))), (Str.ofString "drawn", some (V.list ((drawnL xs).map V.str))), (Str.ofString "words", Option.none), (Str.ofString "numbers", Option.none), (Str.ofString "edge", Option.none), (Str.ofString "lexer", Option.none), (Str.ofString "symbols", Option.none), (Str.ofString "kinds", Option.none), (Str.ofString "wide", Option.none), (Str.ofString "tall", Option.none), (Str.ofString "table", Option.none), (Str.ofString "spots", Option.none), (Str.ofString "heaps", Option.none), (Str.ofString "t", Option.none), (Str.ofString "after", Option.none)], [], m⟩) : LS (X.callee (fdLaw pm cd doc dV kV) L fa) 3 ⟨[(Str.ofString "text", Option.none), (Str.ofString "few", Option.none), (Str.ofString "ranks", Option.none), (Str.ofString "told", Option.none), (Str.ofString "rest", Option.none), (Str.ofString "chains", Option.none), (Str.ofString "books", Option.none), (Str.ofString "total", Option.none), (Str.ofString "due", Option.none)], [(Str.ofString "script", some (V.list (xs.map V.int))), (Str.ofString "own", some (V.list (ownL.map V.int))), (Str.ofString "cells", some (V.list ((List.range 8).map fun i => nat (cellN xs i)))), (Str.ofString "size", some (nat (szN xs))), (Str.ofString "signs", some (V.list (ettK.map V.str))), (Str.ofString "drawn", Option.none), (Str.ofString "words", Option.none), (Str.ofString "numbers", Option.none), (Str.ofString "edge", Option.none), (Str.ofString "lexer", Option.none), (Str.ofString "symbols", Option.none), (Str.ofString "kinds", Option.none), (Str.ofString "wide", Option.none), (Str.ofString "tall", Option.none), (Str.ofString "table", Option.none), (Str.ofString "spots", Option.none), (Str.ofString "heaps", Option.none), (Str.ofString "t", Option.none), (Str.ofString "after", Option.none)], [], m⟩ Q := by
  refine ⟨?_⟩
  have hR : Rm (X.callee (fdLaw pm cd doc dV kV) L fa).A (k + 8) := hA.deeper
  have hh : (X.callee (fdLaw pm cd doc dV kV) L fa).A.handled = none := hR.handled
  have G' : G3 (X.callee (fdLaw pm cd doc dV kV) L fa) := G.callee
  have sl : sizeLine = 2 ^ 24 := by decide
  have hn := sz_of xs
  have hn6 : szN xs ≤ 6 := sz_le xs
  refine ES.asg ?_ (by walk_at "vside") (by walk_at "vside") (by walk_at "vside")
  refine EV.lcm (α := Nat) ?_ (by kernel_rfl) (by kernel_rfl) rfl (by intro _; rfl)
  walk_at "vs"
  refine ⟨_, rfl, ?_⟩
  walk_at "vs"
  refine ⟨_, rfl, ?_⟩
  walk_at "vs"
  refine SUB.sliceL (by rw [List.length_map]; decide) (by decide) ?_
  rw [cells_slice _ hn]
  refine ⟨_, _, _, List.range (szN xs), _, fun k => V.str (drawnF xs k), ITERC.list hh, by walk_at "vsc", by simp; omega, ?_, ?_⟩
  · intro C D c i hi
    walk_at "vs"
    refine BIN.modN 48 ?_ (by decide)
    refine SUB.li (cellN xs (1 + i) % 48) "" rfl (by rw [ett_len]; omega) (by decide) ?_
    exact ⟨rfl, by walk_at "vback"⟩
  rw [show (List.range (szN xs)).map (fun k => V.str (drawnF xs k)) = (drawnL xs).map V.str by unfold drawnL; rw [List.map_map]; rfl]
  walk_at "vs"
  exact h
theorem law_4 (G : G3 X) (hA : Rm X.A (k + 9)) {pm cd doc dV kV : Value} {L fa : Addr} {xs : List Int} {m : List (Addr × Cell)} {Q : Fl → St → Prop}  (h : Q .next ⟨[(Str.ofString "text", Option.none), (Str.ofString "few", Option.none), (Str.ofString "ranks", Option.none), (Str.ofString "told", Option.none), (Str.ofString "rest", Option.none), (Str.ofString "chains", Option.none), (Str.ofString "books", Option.none), (Str.ofString "total", Option.none), (Str.ofString "due", Option.none)], [(Str.ofString "script", some (V.list (xs.map V.int))), (Str.ofString "own", some (V.list (ownL.map V.int))), (Str.ofString "cells", some (V.list ((List.range 8).map fun i => nat (cellN xs i)))), (Str.ofString "size", some (nat (szN xs))), (Str.ofString "signs", some (V.list (ettK.map V.str))), (Str.ofString "drawn", some (V.list ((drawnL xs).map V.str))), (Str.ofString "words", some (V.list ((wordsL xs).map V.str))), (Str.ofString "numbers", Option.none), (Str.ofString "edge", Option.none), (Str.ofString "lexer", Option.none), (Str.ofString "symbols", Option.none), (Str.ofString "kinds", Option.none), (Str.ofString "wide", Option.none), (Str.ofString "tall", Option.none), (Str.ofString "table", Option.none), (Str.ofString "spots", Option.none), (Str.ofString "heaps", Option.none), (Str.ofString "t", Option.none), (Str.ofString "after", Option.none)], [], m⟩) : LS (X.callee (fdLaw pm cd doc dV kV) L fa) 4 ⟨[(Str.ofString "text", Option.none), (Str.ofString "few", Option.none), (Str.ofString "ranks", Option.none), (Str.ofString "told", Option.none), (Str.ofString "rest", Option.none), (Str.ofString "chains", Option.none), (Str.ofString "books", Option.none), (Str.ofString "total", Option.none), (Str.ofString "due", Option.none)], [(Str.ofString "script", some (V.list (xs.map V.int))), (Str.ofString "own", some (V.list (ownL.map V.int))), (Str.ofString "cells", some (V.list ((List.range 8).map fun i => nat (cellN xs i)))), (Str.ofString "size", some (nat (szN xs))), (Str.ofString "signs", some (V.list (ettK.map V.str))), (Str.ofString "drawn", some (V.list ((drawnL xs).map V.str))), (Str.ofString "words", Option.none), (Str.ofString "numbers", Option.none), (Str.ofString "edge", Option.none), (Str.ofString "lexer", Option.none), (Str.ofString "symbols", Option.none), (Str.ofString "kinds", Option.none), (Str.ofString "wide", Option.none), (Str.ofString "tall", Option.none), (Str.ofString "table", Option.none), (Str.ofString "spots", Option.none), (Str.ofString "heaps", Option.none), (Str.ofString "t", Option.none), (Str.ofString "after", Option.none)], [], m⟩ Q := by
  refine ⟨?_⟩
  have hR : Rm (X.callee (fdLaw pm cd doc dV kV) L fa).A (k + 8) := hA.deeper
  have hh : (X.callee (fdLaw pm cd doc dV kV) L fa).A.handled = none := hR.handled
  have G' : G3 (X.callee (fdLaw pm cd doc dV kV) L fa) := G.callee
  have sl : sizeLine = 2 ^ 24 := by decide
  have hn := sz_of xs
  have hn6 : szN xs ≤ 6 := sz_le xs
  refine ES.asg ?_ (by walk_at "vside") (by walk_at "vside") (by walk_at "vside")
  refine EV.lcm (α := Nat) ?_ (by kernel_rfl) (by kernel_rfl) rfl (by intro _; rfl)
  refine EV.callT (by walk_at "vg") "range" (by walk_at "vbn") ?_
  walk_at "vs"
  refine CALL.range ?_
  refine ⟨_, _, _, List.range (szN xs), nat, fun k => V.str (wordF xs k), ITERC.rngN hh (by omega), by walk_at "vsc", by simp; omega, ?_, ?_⟩
  · intro C D c i hi
    have hin : i < szN xs := by simpa using hi
    have hwl := word_len xs i
    walk_at "vs"
    refine SUB.li i "" rfl (by unfold drawnL; simpa using hin) (by unfold drawnL; simp; omega) ?_
    rw [show (drawnL xs).getD i "" = drawnF xs i by unfold drawnL; simp [hin]]
    walk_at "vss"
    rw [show (1 : Int) + (i : Int) = ((1 + i : Nat) : Int) by simp]
    refine SUB.li (1 + i) 0 rfl (by simp; omega) (by decide) ?_
    rw [show (List.range 8).getD (1 + i) 0 = 1 + i by have : 1 + i < 8 := by omega
                                                      simp [this]]
    walk_at "vs"
    refine BIN.divN 48 ?_ (by decide)
    walk_at "vs"
    refine BIN.modN 4 ?_ (by decide)
    refine SUB.ti (cellN xs (1 + i) / 48 % 4) (d := .str (sufL.getD (cellN xs (1 + i) / 48 % 4) "")) rfl ?_ (Nat.le_of_ble_eq_true rfl) ?_
    · have : cellN xs (1 + i) / 48 % 4 < 4 := Nat.mod_lt _ (by decide)
      generalize cellN xs (1 + i) / 48 % 4 = g at this
      have h4 : g = 0 ∨ g = 1 ∨ g = 2 ∨ g = 3 := lt4 g (by omega)
      rcases h4 with h | h | h | h <;> subst h <;> rfl
    refine BIN.adds ?_ (le_sl (Nat.add_le_add (word_len xs i).2.1 (word_len xs i).2.2))
    exact ⟨rfl, by walk_at "vback"⟩
  rw [show (List.range (szN xs)).map (fun k => V.str (wordF xs k)) = (wordsL xs).map V.str by unfold wordsL; rw [List.map_map]; rfl]
  walk_at "vs"
  exact h
theorem law_5 (G : G3 X) (hA : Rm X.A (k + 9)) {pm cd doc dV kV : Value} {L fa : Addr} {xs : List Int} {m : List (Addr × Cell)} {Q : Fl → St → Prop} (hlen : xs.length ≤ 63) (h : Q .next ⟨[(Str.ofString "text", some (V.str (txtF xs))), (Str.ofString "few", Option.none), (Str.ofString "ranks", Option.none), (Str.ofString "told", Option.none), (Str.ofString "rest", Option.none), (Str.ofString "chains", Option.none), (Str.ofString "books", Option.none), (Str.ofString "total", Option.none), (Str.ofString "due", Option.none)], [(Str.ofString "script", some (V.list (xs.map V.int))), (Str.ofString "own", some (V.list (ownL.map V.int))), (Str.ofString "cells", some (V.list ((List.range 8).map fun i => nat (cellN xs i)))), (Str.ofString "size", some (nat (szN xs))), (Str.ofString "signs", some (V.list (ettK.map V.str))), (Str.ofString "drawn", some (V.list ((drawnL xs).map V.str))), (Str.ofString "words", some (V.list ((wordsL xs).map V.str))), (Str.ofString "numbers", some (V.list ((numsL xs).map V.int))), (Str.ofString "edge", Option.none), (Str.ofString "lexer", Option.none), (Str.ofString "symbols", Option.none), (Str.ofString "kinds", Option.none), (Str.ofString "wide", Option.none), (Str.ofString "tall", Option.none), (Str.ofString "table", Option.none), (Str.ofString "spots", Option.none), (Str.ofString "heaps", Option.none), (Str.ofString "t", Option.none), (Str.ofString "after", Option.none)], [], m⟩) : LS (X.callee (fdLaw pm cd doc dV kV) L fa) 5 ⟨[(Str.ofString "text", Option.none), (Str.ofString "few", Option.none), (Str.ofString "ranks", Option.none), (Str.ofString "told", Option.none), (Str.ofString "rest", Option.none), (Str.ofString "chains", Option.none), (Str.ofString "books", Option.none), (Str.ofString "total", Option.none), (Str.ofString "due", Option.none)], [(Str.ofString "script", some (V.list (xs.map V.int))), (Str.ofString "own", some (V.list (ownL.map V.int))), (Str.ofString "cells", some (V.list ((List.range 8).map fun i => nat (cellN xs i)))), (Str.ofString "size", some (nat (szN xs))), (Str.ofString "signs", some (V.list (ettK.map V.str))), (Str.ofString "drawn", some (V.list ((drawnL xs).map V.str))), (Str.ofString "words", some (V.list ((wordsL xs).map V.str))), (Str.ofString "numbers", Option.none), (Str.ofString "edge", Option.none), (Str.ofString "lexer", Option.none), (Str.ofString "symbols", Option.none), (Str.ofString "kinds", Option.none), (Str.ofString "wide", Option.none), (Str.ofString "tall", Option.none), (Str.ofString "table", Option.none), (Str.ofString "spots", Option.none), (Str.ofString "heaps", Option.none), (Str.ofString "t", Option.none), (Str.ofString "after", Option.none)], [], m⟩ Q := by
  refine ⟨?_⟩
  have hR : Rm (X.callee (fdLaw pm cd doc dV kV) L fa).A (k + 8) := hA.deeper
  have hh : (X.callee (fdLaw pm cd doc dV kV) L fa).A.handled = none := hR.handled
  have G' : G3 (X.callee (fdLaw pm cd doc dV kV) L fa) := G.callee
  have sl : sizeLine = 2 ^ 24 := by decide
  have hn := sz_of xs
  have hn6 : szN xs ≤ 6 := sz_le xs
  have hwl : (wordsL xs).length = szN xs := by simp [wordsL]
  have hdl : (drawnL xs).length = szN xs := by simp [drawnL]
  have hnl : (numsL xs).length = szN xs := by simp [numsL, drawnL]
  refine ES.asg ?_ (by walk_at "vside") (by walk_at "vside") (by walk_at "vside")
  walk_at "vs"
  refine EV.callG (by walk_at "vg") 134 (by walk_at "vgn") (by decide) ?_
  walk_at "vs"
  refine EV.list ?_
  walk_at "vss"
  refine BIN.addL ?_ (by simp; omega)
  rw [show (wordsL xs).map V.str ++ [V.str (Str.ofString "#")] = (wordsL xs ++ [Str.ofString "#"]).map V.str by simp]
  walk_at "vs"
  refine SUB.li 7 0 rfl (by decide) (by decide) ?_
  rw [show (List.range 8).getD 7 0 = 7 from rfl]
  walk_at "vs"
  refine sp_134 (k := k + 7) G' hR (by simp; omega) ?_ ?_ ?_
  · intro w hw
    simp only [List.mem_append, List.mem_singleton] at hw
    rcases hw with hw | hw
    · obtain ⟨i, _, rfl⟩ := List.mem_map.mp hw
      have := word_len xs i; omega
    · subst hw; decide
  · have := (cellI_nat hlen (i := 7) (by decide)).2
    omega
  rw [show StrLaws.sliceText (textF (wordsL xs ++ [Str.ofString "#"]) (cellN xs 7)) none (some (-1)) = txtF xs from rfl]
  walk_at "vs"
  refine EV.lcm (α := Str) ?_ (by kernel_rfl) (by kernel_rfl) rfl (by intro _; rfl)
  walk_at "vs"
  refine ⟨_, _, _, drawnL xs, V.str, fun s => V.int (numF s), ITERC.list hh, by walk_at "vsc", by omega, ?_, ?_⟩
  · intro C D c s hs
    have hse : s ∈ ettK := by obtain ⟨i, _, rfl⟩ := List.mem_map.mp hs; exact drawn_mem xs i
    walk_at "v"
    walk_at "v"
    refine EV.ett (by walk_at "vg") ?_
    walk_at "vs"
    refine SUB.sdict (num_at hse) ?_
    exact ⟨rfl, by walk_at "vback"⟩
  rw [show (drawnL xs).map (fun s => V.int (numF s)) = (numsL xs).map V.int by unfold numsL; rw [List.map_map]; rfl]
  walk_at "vss"
  exact h
end

end
section
set_option compiler.extract_closed false
set_option maxHeartbeats 1000000


noncomputable def fewN (xs : List Int) : Nat := 1 + cellN xs 0 / 3 % (szN xs - 1)
noncomputable def symP (xs : List Int) (e : Int) (k : Nat) : Str × V := (wordF xs k, V.int (numF (drawnF xs k) + 256 - e))
noncomputable def symF (xs : List Int) (e : Int) : List Str × List V := putAll ((List.range (szN xs)).map (symP xs e)) ([], [])
noncomputable def restT (t : List Nat) : Nat → List Nat
  | 0 => t
  | i + 1 => (tokT (restT t i)).2
theorem nums_ok (xs : List Int) : ∀ v ∈ numsL xs, 7 ≤ v ∧ v ≤ 54 := fun v hv => by
  obtain ⟨s, hs, rfl⟩ := List.mem_map.mp hv
  obtain ⟨i, _, rfl⟩ := List.mem_map.mp hs
  exact num_ok _ (drawn_mem xs i)
theorem nums_len (xs : List Int) : (numsL xs).length = szN xs := by simp [numsL, drawnL]
theorem nums_at (xs : List Int) {i : Nat} (h : i < szN xs) : (numsL xs).getD i 0 = numF (drawnF xs i) := by simp [numsL, drawnL, h]
theorem words_len (xs : List Int) : (wordsL xs).length = szN xs := by simp [wordsL]
theorem words_at (xs : List Int) {i : Nat} (h : i < szN xs) : (wordsL xs).getD i "" = wordF xs i := by simp [wordsL, h]
section
variable {X : Cx} {σ : St} {k : Nat} {P : V → St → Prop}
theorem law_6 (G : G3 X) (hA : Rm X.A (k + 9)) {pm cd doc dV kV : Value} {L fa : Addr} {xs : List Int} {m : List (Addr × Cell)} {Q : Fl → St → Prop}  (h : ∀ rk : List Int, rk.Perm (numsL xs) → Q .next ⟨[(Str.ofString "text", some (V.str (txtF xs))), (Str.ofString "few", some (nat (fewN xs))), (Str.ofString "ranks", some (V.list (rk.map V.int))), (Str.ofString "told", Option.none), (Str.ofString "rest", Option.none), (Str.ofString "chains", Option.none), (Str.ofString "books", Option.none), (Str.ofString "total", Option.none), (Str.ofString "due", Option.none)], [(Str.ofString "script", some (V.list (xs.map V.int))), (Str.ofString "own", some (V.list (ownL.map V.int))), (Str.ofString "cells", some (V.list ((List.range 8).map fun i => nat (cellN xs i)))), (Str.ofString "size", some (nat (szN xs))), (Str.ofString "signs", some (V.list (ettK.map V.str))), (Str.ofString "drawn", some (V.list ((drawnL xs).map V.str))), (Str.ofString "words", some (V.list ((wordsL xs).map V.str))), (Str.ofString "numbers", some (V.list ((numsL xs).map V.int))), (Str.ofString "edge", Option.none), (Str.ofString "lexer", Option.none), (Str.ofString "symbols", Option.none), (Str.ofString "kinds", Option.none), (Str.ofString "wide", Option.none), (Str.ofString "tall", Option.none), (Str.ofString "table", Option.none), (Str.ofString "spots", Option.none), (Str.ofString "heaps", Option.none), (Str.ofString "t", Option.none), (Str.ofString "after", Option.none)], [], m⟩) : LS (X.callee (fdLaw pm cd doc dV kV) L fa) 6 ⟨[(Str.ofString "text", some (V.str (txtF xs))), (Str.ofString "few", Option.none), (Str.ofString "ranks", Option.none), (Str.ofString "told", Option.none), (Str.ofString "rest", Option.none), (Str.ofString "chains", Option.none), (Str.ofString "books", Option.none), (Str.ofString "total", Option.none), (Str.ofString "due", Option.none)], [(Str.ofString "script", some (V.list (xs.map V.int))), (Str.ofString "own", some (V.list (ownL.map V.int))), (Str.ofString "cells", some (V.list ((List.range 8).map fun i => nat (cellN xs i)))), (Str.ofString "size", some (nat (szN xs))), (Str.ofString "signs", some (V.list (ettK.map V.str))), (Str.ofString "drawn", some (V.list ((drawnL xs).map V.str))), (Str.ofString "words", some (V.list ((wordsL xs).map V.str))), (Str.ofString "numbers", some (V.list ((numsL xs).map V.int))), (Str.ofString "edge", Option.none), (Str.ofString "lexer", Option.none), (Str.ofString "symbols", Option.none), (Str.ofString "kinds", Option.none), (Str.ofString "wide", Option.none), (Str.ofString "tall", Option.none), (Str.ofString "table", Option.none), (Str.ofString "spots", Option.none), (Str.ofString "heaps", Option.none), (Str.ofString "t", Option.none), (Str.ofString "after", Option.none)], [], m⟩ Q := by
  refine ⟨?_⟩
  have hR : Rm (X.callee (fdLaw pm cd doc dV kV) L fa).A (k + 8) := hA.deeper
  have hh : (X.callee (fdLaw pm cd doc dV kV) L fa).A.handled = none := hR.handled
  have G' : G3 (X.callee (fdLaw pm cd doc dV kV) L fa) := G.callee
  have sl : sizeLine = 2 ^ 24 := by decide
  have hn := sz_of xs
  have hn6 : szN xs ≤ 6 := sz_le xs
  have hnl := nums_len xs
  refine ES.asgSw hh ?_ (by walk_at "vside") (by walk_at "vside")
  walk_at "vs"
  refine SUB.li 0 0 rfl (by decide) (by decide) ?_
  rw [show (List.range 8).getD 0 0 = 0 from rfl]
  walk_at "vs"
  refine BIN.divN 3 ?_ (by decide)
  walk_at "vs"
  rw [show ((szN xs : Nat) : Int) - 1 = ((szN xs - 1 : Nat) : Int) by omega]
  refine BIN.modN (szN xs - 1) ?_ (by omega)
  walk_at "vs"
  rw [show (1 : Int) + ((cellN xs 0 / 3 % (szN xs - 1) : Nat) : Int) = ((fewN xs : Nat) : Int) by unfold fewN; simp]
  refine EV.callB (by walk_at "vg") "sorted" (by walk_at "vbn") ?_
  walk_at "vs"
  refine CALL.sorted (by omega) (fun rk h1 h2 => ?_)
  walk_at "vss"
  refine ⟨_, rfl, rfl, ?_⟩
  try dsimp only [List.reverse_cons, List.reverse_nil, List.nil_append, List.append_nil, List.cons_append]
  refine SNs.cons ?_
  walk_at "v"
  refine SNs.cons ?_
  walk_at "v"
  refine SNs.nil ?_
  exact h rk h1
theorem law_7 (G : G3 X) (hA : Rm X.A (k + 9)) {pm cd doc dV kV : Value} {L fa : Addr} {xs : List Int} {m : List (Addr × Cell)} {Q : Fl → St → Prop} {rk : List Int} (hrk : rk.Perm (numsL xs)) (h : ∀ e : Int, 7 ≤ e ∧ e ≤ 55 → Q .next ⟨[(Str.ofString "text", some (V.str (txtF xs))), (Str.ofString "few", some (nat (fewN xs))), (Str.ofString "ranks", some (V.list (rk.map V.int))), (Str.ofString "told", Option.none), (Str.ofString "rest", Option.none), (Str.ofString "chains", Option.none), (Str.ofString "books", Option.none), (Str.ofString "total", Option.none), (Str.ofString "due", Option.none)], [(Str.ofString "script", some (V.list (xs.map V.int))), (Str.ofString "own", some (V.list (ownL.map V.int))), (Str.ofString "cells", some (V.list ((List.range 8).map fun i => nat (cellN xs i)))), (Str.ofString "size", some (nat (szN xs))), (Str.ofString "signs", some (V.list (ettK.map V.str))), (Str.ofString "drawn", some (V.list ((drawnL xs).map V.str))), (Str.ofString "words", some (V.list ((wordsL xs).map V.str))), (Str.ofString "numbers", some (V.list ((numsL xs).map V.int))), (Str.ofString "edge", some (V.int e)), (Str.ofString "lexer", Option.none), (Str.ofString "symbols", Option.none), (Str.ofString "kinds", Option.none), (Str.ofString "wide", Option.none), (Str.ofString "tall", Option.none), (Str.ofString "table", Option.none), (Str.ofString "spots", Option.none), (Str.ofString "heaps", Option.none), (Str.ofString "t", Option.none), (Str.ofString "after", Option.none)], [], m⟩) : LS (X.callee (fdLaw pm cd doc dV kV) L fa) 7 ⟨[(Str.ofString "text", some (V.str (txtF xs))), (Str.ofString "few", some (nat (fewN xs))), (Str.ofString "ranks", some (V.list (rk.map V.int))), (Str.ofString "told", Option.none), (Str.ofString "rest", Option.none), (Str.ofString "chains", Option.none), (Str.ofString "books", Option.none), (Str.ofString "total", Option.none), (Str.ofString "due", Option.none)], [(Str.ofString "script", some (V.list (xs.map V.int))), (Str.ofString "own", some (V.list (ownL.map V.int))), (Str.ofString "cells", some (V.list ((List.range 8).map fun i => nat (cellN xs i)))), (Str.ofString "size", some (nat (szN xs))), (Str.ofString "signs", some (V.list (ettK.map V.str))), (Str.ofString "drawn", some (V.list ((drawnL xs).map V.str))), (Str.ofString "words", some (V.list ((wordsL xs).map V.str))), (Str.ofString "numbers", some (V.list ((numsL xs).map V.int))), (Str.ofString "edge", Option.none), (Str.ofString "lexer", Option.none), (Str.ofString "symbols", Option.none), (Str.ofString "kinds", Option.none), (Str.ofString "wide", Option.none), (Str.ofString "tall", Option.none), (Str.ofString "table", Option.none), (Str.ofString "spots", Option.none), (Str.ofString "heaps", Option.none), (Str.ofString "t", Option.none), (Str.ofString "after", Option.none)], [], m⟩ Q := by
  refine ⟨?_⟩
  have hR : Rm (X.callee (fdLaw pm cd doc dV kV) L fa).A (k + 8) := hA.deeper
  have hh : (X.callee (fdLaw pm cd doc dV kV) L fa).A.handled = none := hR.handled
  have G' : G3 (X.callee (fdLaw pm cd doc dV kV) L fa) := G.callee
  have sl : sizeLine = 2 ^ 24 := by decide
  have hn := sz_of xs
  have hn6 : szN xs ≤ 6 := sz_le xs
  have hnl := nums_len xs
  have hrl : rk.length = szN xs := by rw [hrk.length_eq, hnl]
  have hrv : ∀ v ∈ rk, 7 ≤ v ∧ v ≤ 54 := fun v hv => nums_ok xs v (hrk.mem_iff.mp hv)
  have hf1 : fewN xs < szN xs := by
    unfold fewN
    have : cellN xs 0 / 3 % (szN xs - 1) < szN xs - 1 := Nat.mod_lt _ (by omega)
    omega
  have hf0 : 1 ≤ fewN xs := by unfold fewN; omega
  have hat : ∀ i, i < szN xs → 7 ≤ rk.getD i 0 ∧ rk.getD i 0 ≤ 54 := fun i hi => by
    have : rk.getD i 0 = rk[i]'(by omega) := by simp [hrl, hi]
    rw [this]; exact hrv _ (List.getElem_mem _)
  refine ES.asg ?_ (by walk_at "vside") (by walk_at "vside") (by walk_at "vside")
  refine EV.ife ?_
  walk_at "vs"
  refine SUB.li 0 0 rfl (by decide) (by decide) ?_
  rw [show (List.range 8).getD 0 0 = 0 from rfl]
  walk_at "vs"
  refine BIN.divN 60 ?_ (by decide)
  walk_at "vs"
  refine BIN.modN 2 ?_ (by decide)
  walk_at "vs"
  split
  · walk_at "vs"
    refine SUB.li (fewN xs - 1) 0 (by omega) (by omega) (by omega) ?_
    walk_at "vs"
    have := hat (fewN xs - 1) (by omega)
    exact h _ (by omega)
  · walk_at "vs"
    refine SUB.li (fewN xs) 0 rfl (by omega) (by omega) ?_
    walk_at "vs"
    have := hat (fewN xs) hf1
    exact h _ (by omega)
theorem law_8 (G : G3 X) (hA : Rm X.A (k + 9)) {pm cd doc dV kV : Value} {L fa : Addr} {xs : List Int} {m : List (Addr × Cell)} {Q : Fl → St → Prop} (hL : LamOk X) {e : Int} {w1 w2 : Option V} (hs : (txtF xs).length ≤ sizeLine) (h : ∀ a tb, LxOk X.w.params a → Q .next ⟨[(Str.ofString "text", some (V.str (txtF xs))), (Str.ofString "few", w1), (Str.ofString "ranks", w2), (Str.ofString "told", Option.none), (Str.ofString "rest", Option.none), (Str.ofString "chains", Option.none), (Str.ofString "books", Option.none), (Str.ofString "total", Option.none), (Str.ofString "due", Option.none)], [(Str.ofString "script", some (V.list (xs.map V.int))), (Str.ofString "own", some (V.list (ownL.map V.int))), (Str.ofString "cells", some (V.list ((List.range 8).map fun i => nat (cellN xs i)))), (Str.ofString "size", some (nat (szN xs))), (Str.ofString "signs", some (V.list (ettK.map V.str))), (Str.ofString "drawn", some (V.list ((drawnL xs).map V.str))), (Str.ofString "words", some (V.list ((wordsL xs).map V.str))), (Str.ofString "numbers", some (V.list ((numsL xs).map V.int))), (Str.ofString "edge", some (V.int e)), (Str.ofString "lexer", some (V.ref a.L)), (Str.ofString "symbols", some (V.sdict (symF xs e).1 (symF xs e).2)), (Str.ofString "kinds", Option.none), (Str.ofString "wide", Option.none), (Str.ofString "tall", Option.none), (Str.ofString "table", Option.none), (Str.ofString "spots", Option.none), (Str.ofString "heaps", Option.none), (Str.ofString "t", Option.none), (Str.ofString "after", Option.none)], [], [(136, Cell.raw (· = tabObj tb))] ++ lexM (qL X.w.params) a (1 + nl (txtF xs).cps.toList - nl (restT (txtF xs).cps.toList 0)) (restT (txtF xs).cps.toList 0) [] ++ []⟩) : LS (X.callee (fdLaw pm cd doc dV kV) L fa) 8 ⟨[(Str.ofString "text", some (V.str (txtF xs))), (Str.ofString "few", w1), (Str.ofString "ranks", w2), (Str.ofString "told", Option.none), (Str.ofString "rest", Option.none), (Str.ofString "chains", Option.none), (Str.ofString "books", Option.none), (Str.ofString "total", Option.none), (Str.ofString "due", Option.none)], [(Str.ofString "script", some (V.list (xs.map V.int))), (Str.ofString "own", some (V.list (ownL.map V.int))), (Str.ofString "cells", some (V.list ((List.range 8).map fun i => nat (cellN xs i)))), (Str.ofString "size", some (nat (szN xs))), (Str.ofString "signs", some (V.list (ettK.map V.str))), (Str.ofString "drawn", some (V.list ((drawnL xs).map V.str))), (Str.ofString "words", some (V.list ((wordsL xs).map V.str))), (Str.ofString "numbers", some (V.list ((numsL xs).map V.int))), (Str.ofString "edge", some (V.int e)), (Str.ofString "lexer", Option.none), (Str.ofString "symbols", Option.none), (Str.ofString "kinds", Option.none), (Str.ofString "wide", Option.none), (Str.ofString "tall", Option.none), (Str.ofString "table", Option.none), (Str.ofString "spots", Option.none), (Str.ofString "heaps", Option.none), (Str.ofString "t", Option.none), (Str.ofString "after", Option.none)], [], [(136, Cell.raw (· = tabObj #[]))]⟩ Q := by
  refine ⟨?_⟩
  have hR : Rm (X.callee (fdLaw pm cd doc dV kV) L fa).A (k + 8) := hA.deeper
  have hh : (X.callee (fdLaw pm cd doc dV kV) L fa).A.handled = none := hR.handled
  have G' : G3 (X.callee (fdLaw pm cd doc dV kV) L fa) := G.callee
  have sl : sizeLine = 2 ^ 24 := by decide
  have hn := sz_of xs
  have hn6 : szN xs ≤ 6 := sz_le xs
  have hnl := nums_len xs
  have hwl := words_len xs
  refine ES.asg ?_ (by walk_at "vside") (by walk_at "vside") (by walk_at "vside")
  walk_at "vs"
  refine EV.callG (by walk_at "vg") 141 (by walk_at "vgn") (by decide) ?_
  walk_at "vs"
  refine sp_141 (k := k + 5) (rest := []) G' hL.callee hR rfl hs (fun a tb ha => ?_)
  walk_at "vs"
  refine EV.dcs (α := Nat) ?_ (by kernel_rfl) (by kernel_rfl) rfl (by intro _; rfl)
  refine EV.callT (by walk_at "vg") "range" (by walk_at "vbn") ?_
  walk_at "vs"
  refine CALL.range ?_
  refine ⟨_, _, _, List.range (szN xs), nat, symP xs e, fun _ => true, ITERC.rngN hh (by omega), by walk_at "vsc", by simp; omega, ?_, ?_⟩
  · intro C D c i hi
    have hin : i < szN xs := by simpa using hi
    walk_at "vs"
    refine ⟨rfl, ?_⟩
    rw [if_pos rfl]
    walk_at "vs"
    refine SUB.li i "" rfl (by omega) (by omega) ?_
    rw [words_at xs hin]
    refine ⟨rfl, ?_⟩
    walk_at "vs"
    refine SUB.li i 0 rfl (by omega) (by omega) ?_
    rw [nums_at xs hin]
    walk_at "vs"
    exact ⟨rfl, by walk_at "vback"⟩
  rw [List.filter_eq_self.mpr (fun _ _ => rfl)]
  walk_at "vss"
  have hq := h a tb ha
  rw [show (1 + nl (txtF xs).cps.toList - nl (restT (txtF xs).cps.toList 0)) = 1 by show 1 + nl (txtF xs).cps.toList - nl (txtF xs).cps.toList = 1; omega] at hq
  exact hq
end

end
section
set_option compiler.extract_closed false
set_option maxHeartbeats 1000000


theorem restT_len (t : List Nat) : ∀ i, (restT t i).length ≤ t.length
  | 0 => Nat.le_refl _
  | i + 1 => by have h1 := restT_len t i; have h2 := tokT_len (restT t i); show (tokT (restT t i)).2.length ≤ _; omega
theorem veq_map {α : Type} [BEq α] (enc : α → V) (n : Nat) (hv : ∀ a b, veq n (enc a) (enc b) = some (a == b)) : ∀ (l l' : List α), veq (n + 1) (.list (l.map enc)) (.list (l'.map enc)) = some (l == l') := by
  intro l l'
  have key : ∀ (l l' : List α), l.length = l'.length → allO (List.zipWith (veq n) (l.map enc) (l'.map enc)) = some (l == l') := by
    intro l
    induction l with
    | nil => intro l' h; cases l' with | nil => rfl | cons b l' => simp at h
    | cons a l ih =>
      intro l' h
      cases l' with
      | nil => simp at h
      | cons b l' =>
        have := ih l' (by simpa using h)
        show (match veq n (enc a) (enc b), allO (List.zipWith (veq n) (l.map enc) (l'.map enc)) with | some a, some b => some (a && b) | _, _ => none) = _
        rw [this, hv]; rfl
  show (if (l.map enc).length == (l'.map enc).length then allO (List.zipWith (veq n) (l.map enc) (l'.map enc)) else some false) = _
  simp only [List.length_map]
  split
  · rename_i h; exact key l l' (eq_of_beq h)
  · rename_i h
    congr 1
    symm
    have ne : l.length ≠ l'.length := fun e => h (by rw [e]; exact beq_self_eq_true _)
    clear key h
    revert l'
    induction l with
    | nil => intro l' ne; cases l' with | nil => simp at ne | cons b l' => rfl
    | cons a l ih =>
      intro l' ne
      cases l' with
      | nil => rfl
      | cons b l' =>
        show (a == b && l == l') = false
        rw [ih l' (by simpa using ne), Bool.and_false]
theorem veq_strs (l l' : List Str) : veq 2 (.list (l.map V.str)) (.list (l'.map V.str)) = some (l == l') := veq_map V.str 1 (fun _ _ => rfl) l l'
noncomputable def kd (xs : List Int) (e : Int) (k : Nat) : Int := if numF (drawnF xs k) < e then 1 else 2
noncomputable def patL (xs : List Int) (e : Int) : List Int := (List.range (szN xs)).map (kd xs e)
theorem kd_of (xs : List Int) {e : Int} (he : 7 ≤ e ∧ e ≤ 55) (k : Nat) : (if numF (drawnF xs k) + 256 - e == 0 then 0 else if numF (drawnF xs k) + 256 - e < 256 then 1 else 2) = kd xs e k := by
  have h := num_ok _ (drawn_mem xs k)
  unfold kd
  rw [if_neg (by simp; omega)]
  by_cases h1 : numF (drawnF xs k) < e
  · rw [if_pos (by omega), if_pos h1]
  · rw [if_neg (by omega), if_neg h1]
section
variable {X : Cx} {σ : St} {k : Nat} {P : V → St → Prop}
theorem law_9 (G : G3 X) (hA : Rm X.A (k + 9)) {pm cd doc dV kV : Value} {L fa : Addr} {xs : List Int} {m : List (Addr × Cell)} {Q : Fl → St → Prop} {a : LxA} {tb : Array Value} (hok : LxOk X.w.params a) {e : Int} {w1 w2 : Option V} (hs : (txtF xs).length ≤ sizeLine) (htok : ∀ i < szN xs, tx (tokT (restT (txtF xs).cps.toList i)).1 = wordF xs i) (h : Q .next ⟨[(Str.ofString "text", some (V.str (txtF xs))), (Str.ofString "few", w1), (Str.ofString "ranks", w2), (Str.ofString "told", Option.none), (Str.ofString "rest", Option.none), (Str.ofString "chains", Option.none), (Str.ofString "books", Option.none), (Str.ofString "total", Option.none), (Str.ofString "due", Option.none)], [(Str.ofString "script", some (V.list (xs.map V.int))), (Str.ofString "own", some (V.list (ownL.map V.int))), (Str.ofString "cells", some (V.list ((List.range 8).map fun i => nat (cellN xs i)))), (Str.ofString "size", some (nat (szN xs))), (Str.ofString "signs", some (V.list (ettK.map V.str))), (Str.ofString "drawn", some (V.list ((drawnL xs).map V.str))), (Str.ofString "words", some (V.list ((wordsL xs).map V.str))), (Str.ofString "numbers", some (V.list ((numsL xs).map V.int))), (Str.ofString "edge", some (V.int e)), (Str.ofString "lexer", some (V.ref a.L)), (Str.ofString "symbols", some (V.sdict (symF xs e).1 (symF xs e).2)), (Str.ofString "kinds", Option.none), (Str.ofString "wide", Option.none), (Str.ofString "tall", Option.none), (Str.ofString "table", Option.none), (Str.ofString "spots", Option.none), (Str.ofString "heaps", Option.none), (Str.ofString "t", Option.none), (Str.ofString "after", Option.none)], [], [(136, Cell.raw (· = tabObj tb))] ++ lexM (qL X.w.params) a (1 + nl (txtF xs).cps.toList - nl (restT (txtF xs).cps.toList (szN xs))) (restT (txtF xs).cps.toList (szN xs)) [] ++ []⟩) : LS (X.callee (fdLaw pm cd doc dV kV) L fa) 9 ⟨[(Str.ofString "text", some (V.str (txtF xs))), (Str.ofString "few", w1), (Str.ofString "ranks", w2), (Str.ofString "told", Option.none), (Str.ofString "rest", Option.none), (Str.ofString "chains", Option.none), (Str.ofString "books", Option.none), (Str.ofString "total", Option.none), (Str.ofString "due", Option.none)], [(Str.ofString "script", some (V.list (xs.map V.int))), (Str.ofString "own", some (V.list (ownL.map V.int))), (Str.ofString "cells", some (V.list ((List.range 8).map fun i => nat (cellN xs i)))), (Str.ofString "size", some (nat (szN xs))), (Str.ofString "signs", some (V.list (ettK.map V.str))), (Str.ofString "drawn", some (V.list ((drawnL xs).map V.str))), (Str.ofString "words", some (V.list ((wordsL xs).map V.str))), (Str.ofString "numbers", some (V.list ((numsL xs).map V.int))), (Str.ofString "edge", some (V.int e)), (Str.ofString "lexer", some (V.ref a.L)), (Str.ofString "symbols", some (V.sdict (symF xs e).1 (symF xs e).2)), (Str.ofString "kinds", Option.none), (Str.ofString "wide", Option.none), (Str.ofString "tall", Option.none), (Str.ofString "table", Option.none), (Str.ofString "spots", Option.none), (Str.ofString "heaps", Option.none), (Str.ofString "t", Option.none), (Str.ofString "after", Option.none)], [], [(136, Cell.raw (· = tabObj tb))] ++ lexM (qL X.w.params) a (1 + nl (txtF xs).cps.toList - nl (restT (txtF xs).cps.toList 0)) (restT (txtF xs).cps.toList 0) [] ++ []⟩ Q := by
  refine ⟨?_⟩
  have hR : Rm (X.callee (fdLaw pm cd doc dV kV) L fa).A (k + 8) := hA.deeper
  have hh : (X.callee (fdLaw pm cd doc dV kV) L fa).A.handled = none := hR.handled
  have G' : G3 (X.callee (fdLaw pm cd doc dV kV) L fa) := G.callee
  have sl : sizeLine = 2 ^ 24 := by decide
  have hn := sz_of xs
  have hn6 : szN xs ≤ 6 := sz_le xs
  have hwl := words_len xs
  generalize hT : (txtF xs).cps.toList = T at *
  have hTl : T.length ≤ sizeLine := by rw [← hT]; exact hs
  refine ES.ite ?_
  refine ET.cmp ?_
  refine EV.lcs ?_ (by kernel_rfl) (by kernel_rfl) rfl (by intro _; rfl)
  walk_at "vs"
  refine ⟨_, _, _, (wordsL xs).map V.str, fun i => V.str (tx (tokT (restT T i)).1), fun i => [(136, Cell.raw (· = tabObj tb))] ++ lexM (qL X.w.params) a (1 + nl T - nl (restT T i)) (restT T i) [] ++ [], ITERC.list hh, by walk_at "vsc", by rw [List.length_map]; omega, rfl, ?_, ?_⟩
  · intro C D' c i di hdi
    have hri : (restT T i).length ≤ sizeLine := Nat.le_trans (restT_len T i) hTl
    walk_at "vs"
    refine EV.methU (y := Option.none) 52 51 _ 42 (cls52 (by walk_at "vg")) (by kernel_rfl) (by kernel_rfl) (by kernel_rfl) (G3.K (X := X) G _ _ (o42 _).2) (by kernel_rfl) (by rw [typeLookup_type, builtinLookup_eq_fast]; kernel_rfl) ?_
    walk_at "vs"
    refine ⟨a.L, a.dx, nsL a _, rfl, by walk_at "vm", by walk_at "vm", (by simp only [List.map]; decide +kernel), ?_⟩
    walk_at "vs"
    refine ⟨Keep.func (G3.K (X := X) G _ _ (o42 _).2) (f42 X.w.params).2 (cls_ne (n := "function") (by kernel_rfl)), ?_⟩
    refine sp_42 (k := k) (G3.comp G') (hR.le (by omega)) hok (pre := [(136, Cell.raw (· = tabObj tb))]) (i := 1 + nl T - nl (restT T i)) (t := restT T i) (p := []) (post := [(D', c)]) ?_ ?_ ?_ ?_ ?_
    · exact List.append_assoc _ _ _
    · exact hri
    · simp
    · intro _
      refine ⟨rfl, by (try dsimp only); walk_at "vwk", by (try dsimp only); walk_at "vwk", rfl, ?_⟩
      dsimp only
      show _ = [(136, Cell.raw (· = tabObj tb))] ++ lexM (qL X.w.params) a (1 + nl T - nl (tokT (restT T i)).2) (tokT (restT T i)).2 [] ++ [] ++ [(D', c)]
      rw [show 1 + nl T - nl (restT T i) + nl (restT T i) - nl (tokT (restT T i)).2 = 1 + nl T - nl (tokT (restT T i)).2 by omega]
      rw [List.append_nil]
      rfl
    · intro d p' h; cases h
  rw [List.length_map, hwl]
  have e1 : (List.range (szN xs)).map (fun i => V.str (tx (tokT (restT T i)).1)) = (wordsL xs).map V.str := by
    unfold wordsL
    rw [List.map_map]
    refine List.map_congr_left fun i hi => ?_
    show V.str _ = V.str _
    rw [htok i (by simpa using hi)]
  rw [e1]
  walk_at "vs"
  refine CMP.nev 2 hR (veq_strs _ _) ?_
  rw [show (!(wordsL xs == wordsL xs)) = false by simp]
  walk_at "vs"
  rw [if_neg (by decide)]
  walk_at "vs"
  exact h
theorem law_10 (G : G3 X) (hA : Rm X.A (k + 9)) {pm cd doc dV kV : Value} {L fa : Addr} {xs : List Int} {m : List (Addr × Cell)} {Q : Fl → St → Prop} {a : LxA} {tb : Array Value} (hok : LxOk X.w.params a) {e : Int} {w1 w2 : Option V} (hs : (txtF xs).length ≤ sizeLine) (htok1 : tx (tokT (restT (txtF xs).cps.toList (szN xs))).1 = Str.ofString "#") (htok2 : tx (tokT (restT (txtF xs).cps.toList (szN xs + 1))).1 = Str.ofString "") (h : Q .next ⟨[(Str.ofString "text", some (V.str (txtF xs))), (Str.ofString "few", w1), (Str.ofString "ranks", w2), (Str.ofString "told", some (V.list ((wordsL xs ++ wordsL xs).map V.str))), (Str.ofString "rest", some (V.list ((wordsL xs ++ [Str.ofString "#", Str.ofString ""]).map V.str))), (Str.ofString "chains", Option.none), (Str.ofString "books", Option.none), (Str.ofString "total", Option.none), (Str.ofString "due", Option.none)], [(Str.ofString "script", some (V.list (xs.map V.int))), (Str.ofString "own", some (V.list (ownL.map V.int))), (Str.ofString "cells", some (V.list ((List.range 8).map fun i => nat (cellN xs i)))), (Str.ofString "size", some (nat (szN xs))), (Str.ofString "signs", some (V.list (ettK.map V.str))), (Str.ofString "drawn", some (V.list ((drawnL xs).map V.str))), (Str.ofString "words", some (V.list ((wordsL xs).map V.str))), (Str.ofString "numbers", some (V.list ((numsL xs).map V.int))), (Str.ofString "edge", some (V.int e)), (Str.ofString "lexer", some (V.ref a.L)), (Str.ofString "symbols", some (V.sdict (symF xs e).1 (symF xs e).2)), (Str.ofString "kinds", Option.none), (Str.ofString "wide", Option.none), (Str.ofString "tall", Option.none), (Str.ofString "table", Option.none), (Str.ofString "spots", Option.none), (Str.ofString "heaps", Option.none), (Str.ofString "t", Option.none), (Str.ofString "after", Option.none)], [], [(136, Cell.raw (· = tabObj tb))] ++ lexM (qL X.w.params) a (1 + nl (txtF xs).cps.toList - nl (restT (txtF xs).cps.toList (szN xs + 2))) (restT (txtF xs).cps.toList (szN xs + 2)) [] ++ []⟩) : LS (X.callee (fdLaw pm cd doc dV kV) L fa) 10 ⟨[(Str.ofString "text", some (V.str (txtF xs))), (Str.ofString "few", w1), (Str.ofString "ranks", w2), (Str.ofString "told", Option.none), (Str.ofString "rest", Option.none), (Str.ofString "chains", Option.none), (Str.ofString "books", Option.none), (Str.ofString "total", Option.none), (Str.ofString "due", Option.none)], [(Str.ofString "script", some (V.list (xs.map V.int))), (Str.ofString "own", some (V.list (ownL.map V.int))), (Str.ofString "cells", some (V.list ((List.range 8).map fun i => nat (cellN xs i)))), (Str.ofString "size", some (nat (szN xs))), (Str.ofString "signs", some (V.list (ettK.map V.str))), (Str.ofString "drawn", some (V.list ((drawnL xs).map V.str))), (Str.ofString "words", some (V.list ((wordsL xs).map V.str))), (Str.ofString "numbers", some (V.list ((numsL xs).map V.int))), (Str.ofString "edge", some (V.int e)), (Str.ofString "lexer", some (V.ref a.L)), (Str.ofString "symbols", some (V.sdict (symF xs e).1 (symF xs e).2)), (Str.ofString "kinds", Option.none), (Str.ofString "wide", Option.none), (Str.ofString "tall", Option.none), (Str.ofString "table", Option.none), (Str.ofString "spots", Option.none), (Str.ofString "heaps", Option.none), (Str.ofString "t", Option.none), (Str.ofString "after", Option.none)], [], [(136, Cell.raw (· = tabObj tb))] ++ lexM (qL X.w.params) a (1 + nl (txtF xs).cps.toList - nl (restT (txtF xs).cps.toList (szN xs))) (restT (txtF xs).cps.toList (szN xs)) [] ++ []⟩ Q := by
  refine ⟨?_⟩
  have hR : Rm (X.callee (fdLaw pm cd doc dV kV) L fa).A (k + 8) := hA.deeper
  have hh : (X.callee (fdLaw pm cd doc dV kV) L fa).A.handled = none := hR.handled
  have G' : G3 (X.callee (fdLaw pm cd doc dV kV) L fa) := G.callee
  have sl : sizeLine = 2 ^ 24 := by decide
  have hn := sz_of xs
  have hn6 : szN xs ≤ 6 := sz_le xs
  have hwl := words_len xs
  generalize hT : (txtF xs).cps.toList = T at *
  have hTl : T.length ≤ sizeLine := by rw [← hT]; exact hs
  refine ES.asg ?_ (by walk_at "vside") (by walk_at "vside") (by walk_at "vside")
  refine EV.callG (by walk_at "vg") 156 (by walk_at "vgn") (by decide) ?_
  walk_at "vs"
  refine sp_156 (k := k + 2) (pre := [(136, Cell.raw (· = tabObj tb))]) (post := []) (t := restT T (szN xs)) G' hR hok rfl (Nat.le_trans (restT_len T _) hTl) (by omega) ?_
  rw [htok1]
  rw [show (tokT (tokT (restT T (szN xs))).2).1 = (tokT (restT T (szN xs + 1))).1 from rfl, htok2]
  rw [show (wordsL xs).map V.str ++ [V.str (Str.ofString "#"), V.str (Str.ofString "")] = (wordsL xs ++ [Str.ofString "#", Str.ofString ""]).map V.str by simp]
  walk_at "vs"
  rw [show 1 + nl T - nl (restT T (szN xs)) + nl (restT T (szN xs)) - nl (tokT (tokT (restT T (szN xs))).2).2 = 1 + nl T - nl (restT T (szN xs + 2)) by
    show _ = 1 + nl T - nl (tokT (tokT (restT T (szN xs))).2).2; omega]
  exact h
theorem law_11 (G : G3 X) (hA : Rm X.A (k + 9)) {pm cd doc dV kV : Value} {L fa : Addr} {xs : List Int} {m : List (Addr × Cell)} {Q : Fl → St → Prop} {e : Int} {w1 w2 : Option V} {a : LxA} (h : Q .next ⟨[(Str.ofString "text", some (V.str (txtF xs))), (Str.ofString "few", w1), (Str.ofString "ranks", w2), (Str.ofString "told", some (V.list ((wordsL xs ++ wordsL xs).map V.str))), (Str.ofString "rest", some (V.list ((wordsL xs ++ [Str.ofString "#", Str.ofString ""]).map V.str))), (Str.ofString "chains", Option.none), (Str.ofString "books", Option.none), (Str.ofString "total", Option.none), (Str.ofString "due", Option.none)], [(Str.ofString "script", some (V.list (xs.map V.int))), (Str.ofString "own", some (V.list (ownL.map V.int))), (Str.ofString "cells", some (V.list ((List.range 8).map fun i => nat (cellN xs i)))), (Str.ofString "size", some (nat (szN xs))), (Str.ofString "signs", some (V.list (ettK.map V.str))), (Str.ofString "drawn", some (V.list ((drawnL xs).map V.str))), (Str.ofString "words", some (V.list ((wordsL xs).map V.str))), (Str.ofString "numbers", some (V.list ((numsL xs).map V.int))), (Str.ofString "edge", some (V.int e)), (Str.ofString "lexer", some (V.ref a.L)), (Str.ofString "symbols", some (V.sdict (symF xs e).1 (symF xs e).2)), (Str.ofString "kinds", Option.none), (Str.ofString "wide", Option.none), (Str.ofString "tall", Option.none), (Str.ofString "table", Option.none), (Str.ofString "spots", Option.none), (Str.ofString "heaps", Option.none), (Str.ofString "t", Option.none), (Str.ofString "after", Option.none)], [], m⟩) : LS (X.callee (fdLaw pm cd doc dV kV) L fa) 11 ⟨[(Str.ofString "text", some (V.str (txtF xs))), (Str.ofString "few", w1), (Str.ofString "ranks", w2), (Str.ofString "told", some (V.list ((wordsL xs ++ wordsL xs).map V.str))), (Str.ofString "rest", some (V.list ((wordsL xs ++ [Str.ofString "#", Str.ofString ""]).map V.str))), (Str.ofString "chains", Option.none), (Str.ofString "books", Option.none), (Str.ofString "total", Option.none), (Str.ofString "due", Option.none)], [(Str.ofString "script", some (V.list (xs.map V.int))), (Str.ofString "own", some (V.list (ownL.map V.int))), (Str.ofString "cells", some (V.list ((List.range 8).map fun i => nat (cellN xs i)))), (Str.ofString "size", some (nat (szN xs))), (Str.ofString "signs", some (V.list (ettK.map V.str))), (Str.ofString "drawn", some (V.list ((drawnL xs).map V.str))), (Str.ofString "words", some (V.list ((wordsL xs).map V.str))), (Str.ofString "numbers", some (V.list ((numsL xs).map V.int))), (Str.ofString "edge", some (V.int e)), (Str.ofString "lexer", some (V.ref a.L)), (Str.ofString "symbols", some (V.sdict (symF xs e).1 (symF xs e).2)), (Str.ofString "kinds", Option.none), (Str.ofString "wide", Option.none), (Str.ofString "tall", Option.none), (Str.ofString "table", Option.none), (Str.ofString "spots", Option.none), (Str.ofString "heaps", Option.none), (Str.ofString "t", Option.none), (Str.ofString "after", Option.none)], [], m⟩ Q := by
  refine ⟨?_⟩
  have hR : Rm (X.callee (fdLaw pm cd doc dV kV) L fa).A (k + 8) := hA.deeper
  have hh : (X.callee (fdLaw pm cd doc dV kV) L fa).A.handled = none := hR.handled
  have G' : G3 (X.callee (fdLaw pm cd doc dV kV) L fa) := G.callee
  have sl : sizeLine = 2 ^ 24 := by decide
  have hn := sz_of xs
  have hn6 : szN xs ≤ 6 := sz_le xs
  have hwl := words_len xs
  have hne : (wordsL xs).map V.str ≠ [] := fun h0 => by
    have := congrArg List.length h0
    rw [List.length_map, hwl] at this; simp at this; omega
  refine ES.ite ?_
  walk_at "vs"
  refine BIN.mulL ?_ hne (by rw [List.length_map, hwl]; show szN xs * 2 ≤ _; omega) (by decide)
  rw [show (List.replicate (Int.toNat 2) ((wordsL xs).map V.str)).flatten = (wordsL xs ++ wordsL xs).map V.str by
    show (List.replicate 2 ((wordsL xs).map V.str)).flatten = _
    simp [List.replicate_succ]]
  refine CMP.nev 2 hR (veq_strs _ _) ?_
  rw [show (!(wordsL xs ++ wordsL xs == wordsL xs ++ wordsL xs)) = false by simp]
  walk_at "vs"
  rw [if_neg (by decide)]
  walk_at "vs"
  refine EV.list ?_
  walk_at "vss"
  refine BIN.addL ?_ (by simp; omega)
  rw [show (wordsL xs).map V.str ++ [V.str (Str.ofString "#"), V.str (Str.ofString "")] = (wordsL xs ++ [Str.ofString "#", Str.ofString ""]).map V.str by simp]
  refine CMP.nev 2 hR (veq_strs _ _) ?_
  rw [show (!(wordsL xs ++ [Str.ofString "#", Str.ofString ""] == wordsL xs ++ [Str.ofString "#", Str.ofString ""])) = false by simp]
  walk_at "vs"
  rw [if_neg (by decide)]
  walk_at "vs"
  rw [if_neg (by decide)]
  walk_at "vs"
  exact h
theorem law_12 (G : G3 X) (hA : Rm X.A (k + 9)) {pm cd doc dV kV : Value} {L fa : Addr} {xs : List Int} {m : List (Addr × Cell)} {Q : Fl → St → Prop} {e : Int} (he : 7 ≤ e ∧ e ≤ 55) {w1 w2 : Option V} {a : LxA} (hsym : ∀ k < szN xs, vat (symF xs e).1 (symF xs e).2 (wordF xs k) = some (V.int (numF (drawnF xs k) + 256 - e))) (h : Q .next ⟨[(Str.ofString "text", some (V.str (txtF xs))), (Str.ofString "few", w1), (Str.ofString "ranks", w2), (Str.ofString "told", some (V.list ((wordsL xs ++ wordsL xs).map V.str))), (Str.ofString "rest", some (V.list ((wordsL xs ++ [Str.ofString "#", Str.ofString ""]).map V.str))), (Str.ofString "chains", Option.none), (Str.ofString "books", Option.none), (Str.ofString "total", Option.none), (Str.ofString "due", Option.none)], [(Str.ofString "script", some (V.list (xs.map V.int))), (Str.ofString "own", some (V.list (ownL.map V.int))), (Str.ofString "cells", some (V.list ((List.range 8).map fun i => nat (cellN xs i)))), (Str.ofString "size", some (nat (szN xs))), (Str.ofString "signs", some (V.list (ettK.map V.str))), (Str.ofString "drawn", some (V.list ((drawnL xs).map V.str))), (Str.ofString "words", some (V.list ((wordsL xs).map V.str))), (Str.ofString "numbers", some (V.list ((numsL xs).map V.int))), (Str.ofString "edge", some (V.int e)), (Str.ofString "lexer", some (V.ref a.L)), (Str.ofString "symbols", some (V.sdict (symF xs e).1 (symF xs e).2)), (Str.ofString "kinds", some (V.list ((patL xs e ++ patL xs e).map V.int))), (Str.ofString "wide", Option.none), (Str.ofString "tall", Option.none), (Str.ofString "table", Option.none), (Str.ofString "spots", Option.none), (Str.ofString "heaps", Option.none), (Str.ofString "t", Option.none), (Str.ofString "after", Option.none)], [], m⟩) : LS (X.callee (fdLaw pm cd doc dV kV) L fa) 12 ⟨[(Str.ofString "text", some (V.str (txtF xs))), (Str.ofString "few", w1), (Str.ofString "ranks", w2), (Str.ofString "told", some (V.list ((wordsL xs ++ wordsL xs).map V.str))), (Str.ofString "rest", some (V.list ((wordsL xs ++ [Str.ofString "#", Str.ofString ""]).map V.str))), (Str.ofString "chains", Option.none), (Str.ofString "books", Option.none), (Str.ofString "total", Option.none), (Str.ofString "due", Option.none)], [(Str.ofString "script", some (V.list (xs.map V.int))), (Str.ofString "own", some (V.list (ownL.map V.int))), (Str.ofString "cells", some (V.list ((List.range 8).map fun i => nat (cellN xs i)))), (Str.ofString "size", some (nat (szN xs))), (Str.ofString "signs", some (V.list (ettK.map V.str))), (Str.ofString "drawn", some (V.list ((drawnL xs).map V.str))), (Str.ofString "words", some (V.list ((wordsL xs).map V.str))), (Str.ofString "numbers", some (V.list ((numsL xs).map V.int))), (Str.ofString "edge", some (V.int e)), (Str.ofString "lexer", some (V.ref a.L)), (Str.ofString "symbols", some (V.sdict (symF xs e).1 (symF xs e).2)), (Str.ofString "kinds", Option.none), (Str.ofString "wide", Option.none), (Str.ofString "tall", Option.none), (Str.ofString "table", Option.none), (Str.ofString "spots", Option.none), (Str.ofString "heaps", Option.none), (Str.ofString "t", Option.none), (Str.ofString "after", Option.none)], [], m⟩ Q := by
  refine ⟨?_⟩
  have hR : Rm (X.callee (fdLaw pm cd doc dV kV) L fa).A (k + 8) := hA.deeper
  have hh : (X.callee (fdLaw pm cd doc dV kV) L fa).A.handled = none := hR.handled
  have G' : G3 (X.callee (fdLaw pm cd doc dV kV) L fa) := G.callee
  have sl : sizeLine = 2 ^ 24 := by decide
  have hn := sz_of xs
  have hn6 : szN xs ≤ 6 := sz_le xs
  have hwl := words_len xs
  refine ES.asg ?_ (by walk_at "vside") (by walk_at "vside") (by walk_at "vside")
  refine EV.lcm (α := Nat) ?_ (by kernel_rfl) (by kernel_rfl) rfl (by intro _; rfl)
  walk_at "vs"
  have e0 : (wordsL xs ++ wordsL xs).map V.str = (List.range (szN xs) ++ List.range (szN xs)).map (fun k => V.str (wordF xs k)) := by unfold wordsL; rw [List.map_append, List.map_append, List.map_map]; rfl
  rw [e0]
  refine ⟨_, _, _, List.range (szN xs) ++ List.range (szN xs), _, fun k => V.int (kd xs e k), ITERC.list hh, by walk_at "vsc", by simp; omega, ?_, ?_⟩
  · intro C D c i hi
    have hin : i < szN xs := by simpa using hi
    walk_at "vs"
    refine EV.callG (by walk_at "vg") 146 (by walk_at "vgn") (by decide) ?_
    walk_at "vs"
    refine SUB.sdict (hsym i hin) ?_
    walk_at "vs"
    refine sp_146 (k := k + 6) (G3.comp G') hR ?_
    rw [kd_of xs he]
    exact ⟨rfl, by walk_at "vback"⟩
  rw [show (List.range (szN xs) ++ List.range (szN xs)).map (fun k => V.int (kd xs e k)) = (patL xs e ++ patL xs e).map V.int by unfold patL; rw [List.map_append, List.map_append, List.map_map]; rfl]
  walk_at "vs"
  rw [← e0]
  exact h
end

end
section
set_option compiler.extract_closed false
set_option maxHeartbeats 1000000


noncomputable def kI (x : Int) : Int := if x == 0 then 0 else if x < 256 then 1 else 2
theorem pat_nums (xs : List Int) (e : Int) : patL xs e = (numsL xs).map fun v => if v < e then 1 else 2 := by
  unfold patL numsL drawnL
  rw [List.map_map, List.map_map]; rfl
theorem kI_nums (xs : List Int) : (numsL xs).map kI = List.replicate (szN xs) 1 := by
  refine List.eq_replicate_iff.mpr ⟨by rw [List.length_map, nums_len], fun b hb => ?_⟩
  obtain ⟨v, hv, rfl⟩ := List.mem_map.mp hb
  have := nums_ok xs v hv
  unfold kI
  rw [if_neg (by simp; omega), if_pos (by omega)]
noncomputable def winF (pt : List Int) (t : Nat) : List Int := ((pt ++ pt).drop t).take pt.length
theorem pick_pt {pt : List Int} {n : Nat} (h : pt.length = n) (hn : n = 4 ∨ n = 5 ∨ n = 6) : pickI (pt ++ pt) none (some (n : Int)) none = pt := by
  rcases hn with hn | hn | hn <;> subst hn
  · obtain ⟨a, b, c, d, rfl⟩ : ∃ a b c d, pt = [a, b, c, d] := by
      rcases pt with _ | ⟨a, _ | ⟨b, _ | ⟨c, _ | ⟨d, _ | _⟩⟩⟩⟩ <;> simp at h
      exact ⟨a, b, c, d, rfl⟩
    rfl
  · obtain ⟨a, b, c, d, e, rfl⟩ : ∃ a b c d e, pt = [a, b, c, d, e] := by
      rcases pt with _ | ⟨a, _ | ⟨b, _ | ⟨c, _ | ⟨d, _ | ⟨e, _ | _⟩⟩⟩⟩⟩ <;> simp at h
      exact ⟨a, b, c, d, e, rfl⟩
    rfl
  · obtain ⟨a, b, c, d, e, f, rfl⟩ : ∃ a b c d e f, pt = [a, b, c, d, e, f] := by
      rcases pt with _ | ⟨a, _ | ⟨b, _ | ⟨c, _ | ⟨d, _ | ⟨e, _ | ⟨f, _ | _⟩⟩⟩⟩⟩⟩ <;> simp at h
      exact ⟨a, b, c, d, e, f, rfl⟩
    rfl
theorem lt6' : ∀ t < 6, t = 0 ∨ t = 1 ∨ t = 2 ∨ t = 3 ∨ t = 4 ∨ t = 5 := by decide
theorem lt6 {t n : Nat} (h : t < n) (hn : n ≤ 6) : t = 0 ∨ t = 1 ∨ t = 2 ∨ t = 3 ∨ t = 4 ∨ t = 5 := lt6' t (Nat.lt_of_lt_of_le h hn)
theorem pick_win {pt : List Int} {n : Nat} (h : pt.length = n) (hn : n = 4 ∨ n = 5 ∨ n = 6) {t : Nat} (ht : t < n) : pickI (pt ++ pt) (some (t : Int)) (some ((t : Int) + (n : Int))) none = winF pt t := by
  rcases hn with hn | hn | hn <;> subst hn
  · obtain ⟨a, b, c, d, rfl⟩ : ∃ a b c d, pt = [a, b, c, d] := by
      rcases pt with _ | ⟨a, _ | ⟨b, _ | ⟨c, _ | ⟨d, _ | _⟩⟩⟩⟩ <;> simp at h
      exact ⟨a, b, c, d, rfl⟩
    rcases lt6 ht (by decide) with h | h | h | h | h | h <;> subst h <;> first | rfl | omega
  · obtain ⟨a, b, c, d, e, rfl⟩ : ∃ a b c d e, pt = [a, b, c, d, e] := by
      rcases pt with _ | ⟨a, _ | ⟨b, _ | ⟨c, _ | ⟨d, _ | ⟨e, _ | _⟩⟩⟩⟩⟩ <;> simp at h
      exact ⟨a, b, c, d, e, rfl⟩
    rcases lt6 ht (by decide) with h | h | h | h | h | h <;> subst h <;> first | rfl | omega
  · obtain ⟨a, b, c, d, e, f, rfl⟩ : ∃ a b c d e f, pt = [a, b, c, d, e, f] := by
      rcases pt with _ | ⟨a, _ | ⟨b, _ | ⟨c, _ | ⟨d, _ | ⟨e, _ | ⟨f, _ | _⟩⟩⟩⟩⟩⟩ <;> simp at h
      exact ⟨a, b, c, d, e, f, rfl⟩
    rcases lt6 ht (by decide) with h | h | h | h | h | h <;> subst h <;> first | rfl | omega
noncomputable def isI (k : Int) : V → Bool
  | .int i => i == k
  | _ => false
theorem count_pt (pt : List Int) (k : Int) : (pt.map V.int).countP (isI k) = pt.count k := by
  rw [List.countP_map, List.count]; rfl
noncomputable def heapsF (pt : List Int) : List (List Int) := (chainsF pt).map (heapF (pt.count 1) (pt.count 2))
/-- what the finite look tells of a pattern -/
structure Good (pt : List Int) : Prop where
  sum : pt.count 1 + pt.count 2 = pt.length
  win : ∀ t < pt.length, (winF pt t).length = pt.length ∧ (chRows (winF pt t) (pt.count 1)).length ≤ (chCols (winF pt t) (pt.count 1) (pt.count 2)).length
  ch : ∀ c ∈ chainsF pt, ∀ y ∈ c, 0 ≤ y ∧ y < ((pt.count 1 * pt.count 2 : Nat) : Int)
theorem chains_len (pt : List Int) : (chainsF pt).length = pt.length := by unfold chainsF; simp
theorem heaps_len (pt : List Int) : (heapsF pt).length = pt.length := by unfold heapsF; rw [List.length_map, chains_len]
section
variable {X : Cx} {σ : St} {k : Nat} {P : V → St → Prop}
theorem law_13 (G : G3 X) (hA : Rm X.A (k + 9)) {pm cd doc dV kV : Value} {L fa : Addr} {xs : List Int} {m : List (Addr × Cell)} {Q : Fl → St → Prop} {e : Int} {w1 w2 : Option V} {a : LxA} (h : Q .next ⟨[(Str.ofString "text", some (V.str (txtF xs))), (Str.ofString "few", w1), (Str.ofString "ranks", w2), (Str.ofString "told", some (V.list ((wordsL xs ++ wordsL xs).map V.str))), (Str.ofString "rest", some (V.list ((wordsL xs ++ [Str.ofString "#", Str.ofString ""]).map V.str))), (Str.ofString "chains", Option.none), (Str.ofString "books", Option.none), (Str.ofString "total", Option.none), (Str.ofString "due", Option.none)], [(Str.ofString "script", some (V.list (xs.map V.int))), (Str.ofString "own", some (V.list (ownL.map V.int))), (Str.ofString "cells", some (V.list ((List.range 8).map fun i => nat (cellN xs i)))), (Str.ofString "size", some (nat (szN xs))), (Str.ofString "signs", some (V.list (ettK.map V.str))), (Str.ofString "drawn", some (V.list ((drawnL xs).map V.str))), (Str.ofString "words", some (V.list ((wordsL xs).map V.str))), (Str.ofString "numbers", some (V.list ((numsL xs).map V.int))), (Str.ofString "edge", some (V.int e)), (Str.ofString "lexer", some (V.ref a.L)), (Str.ofString "symbols", some (V.sdict (symF xs e).1 (symF xs e).2)), (Str.ofString "kinds", some (V.list ((patL xs e ++ patL xs e).map V.int))), (Str.ofString "wide", Option.none), (Str.ofString "tall", Option.none), (Str.ofString "table", Option.none), (Str.ofString "spots", Option.none), (Str.ofString "heaps", Option.none), (Str.ofString "t", Option.none), (Str.ofString "after", Option.none)], [], m⟩) : LS (X.callee (fdLaw pm cd doc dV kV) L fa) 13 ⟨[(Str.ofString "text", some (V.str (txtF xs))), (Str.ofString "few", w1), (Str.ofString "ranks", w2), (Str.ofString "told", some (V.list ((wordsL xs ++ wordsL xs).map V.str))), (Str.ofString "rest", some (V.list ((wordsL xs ++ [Str.ofString "#", Str.ofString ""]).map V.str))), (Str.ofString "chains", Option.none), (Str.ofString "books", Option.none), (Str.ofString "total", Option.none), (Str.ofString "due", Option.none)], [(Str.ofString "script", some (V.list (xs.map V.int))), (Str.ofString "own", some (V.list (ownL.map V.int))), (Str.ofString "cells", some (V.list ((List.range 8).map fun i => nat (cellN xs i)))), (Str.ofString "size", some (nat (szN xs))), (Str.ofString "signs", some (V.list (ettK.map V.str))), (Str.ofString "drawn", some (V.list ((drawnL xs).map V.str))), (Str.ofString "words", some (V.list ((wordsL xs).map V.str))), (Str.ofString "numbers", some (V.list ((numsL xs).map V.int))), (Str.ofString "edge", some (V.int e)), (Str.ofString "lexer", some (V.ref a.L)), (Str.ofString "symbols", some (V.sdict (symF xs e).1 (symF xs e).2)), (Str.ofString "kinds", some (V.list ((patL xs e ++ patL xs e).map V.int))), (Str.ofString "wide", Option.none), (Str.ofString "tall", Option.none), (Str.ofString "table", Option.none), (Str.ofString "spots", Option.none), (Str.ofString "heaps", Option.none), (Str.ofString "t", Option.none), (Str.ofString "after", Option.none)], [], m⟩ Q := by
  refine ⟨?_⟩
  have hR : Rm (X.callee (fdLaw pm cd doc dV kV) L fa).A (k + 8) := hA.deeper
  have hh : (X.callee (fdLaw pm cd doc dV kV) L fa).A.handled = none := hR.handled
  have G' : G3 (X.callee (fdLaw pm cd doc dV kV) L fa) := G.callee
  have sl : sizeLine = 2 ^ 24 := by decide
  have hn := sz_of xs
  have hn6 : szN xs ≤ 6 := sz_le xs
  have hnl := nums_len xs
  have hne : (numsL xs).map V.int ≠ [] := fun h0 => by
    have := congrArg List.length h0
    rw [List.length_map, hnl] at this; simp at this; omega
  refine ES.ite ?_
  refine ET.cmp ?_
  walk_at "v"
  refine EV.lcm (α := Int) ?_ (by kernel_rfl) (by kernel_rfl) rfl (by intro _; rfl)
  walk_at "v"
  refine EV.list ?_
  walk_at "vss"
  refine BIN.addL ?_ (by simp; omega)
  rw [show [V.int 0] ++ (numsL xs).map V.int = (0 :: numsL xs).map V.int from rfl]
  refine ⟨_, _, _, 0 :: numsL xs, V.int, fun x => V.int (kI x), ITERC.list hh, by walk_at "vsc", by simp; omega, ?_, ?_⟩
  · intro C D c x hx
    walk_at "vs"
    refine EV.callG (by walk_at "vg") 146 (by walk_at "vgn") (by decide) ?_
    walk_at "vs"
    refine sp_146 (k := k + 6) (G3.comp G') hR ?_
    exact ⟨rfl, by walk_at "vback"⟩
  rw [show (0 :: numsL xs).map (fun x => V.int (kI x)) = ((0 :: numsL xs).map kI).map V.int by rw [List.map_map]; rfl]
  walk_at "vs"
  refine BIN.addL ?_ (by simp [patL]; omega)
  rw [← List.map_append]
  walk_at "v"
  walk_at "v"
  refine EV.list ?_
  walk_at "vss"
  refine EV.list ?_
  walk_at "vss"
  refine BIN.mulL ?_ (by simp) (by simp; omega) (by omega)
  rw [show (List.replicate (((szN xs : Nat) : Int)).toNat [V.int 1]).flatten = (List.replicate (szN xs) (1 : Int)).map V.int by
    rw [Int.toNat_natCast, List.map_replicate]
    generalize szN xs = n
    induction n with
    | zero => rfl
    | succ n ih => rw [List.replicate_succ, List.flatten_cons, ih, List.replicate_succ]; rfl]
  refine BIN.addL ?_ (by simp; omega)
  rw [show [V.int 0] ++ (List.replicate (szN xs) (1 : Int)).map V.int = (0 :: List.replicate (szN xs) 1).map V.int from rfl]
  refine EV.lcm (α := Int) ?_ (by kernel_rfl) (by kernel_rfl) rfl (by intro _; rfl)
  walk_at "vs"
  refine BIN.mulL ?_ hne (by rw [List.length_map, hnl]; show szN xs * 2 ≤ _; omega) (by decide)
  rw [show (List.replicate (Int.toNat 2) ((numsL xs).map V.int)).flatten = (numsL xs ++ numsL xs).map V.int by
    show (List.replicate 2 ((numsL xs).map V.int)).flatten = _
    simp [List.replicate_succ]]
  refine ⟨_, _, _, numsL xs ++ numsL xs, V.int, fun v => V.int (if v < e then 1 else 2), ITERC.list hh, by walk_at "vsc", by simp; omega, ?_, ?_⟩
  · intro C D c x hx
    walk_at "vs"
    by_cases hx : x < e
    · rw [if_pos (by simpa using hx), if_pos hx]
      walk_at "vs"
      exact ⟨rfl, by walk_at "vback"⟩
    · rw [if_neg (by simpa using hx), if_neg hx]
      walk_at "vs"
      exact ⟨rfl, by walk_at "vback"⟩
  rw [show (numsL xs ++ numsL xs).map (fun v => V.int (if v < e then 1 else 2)) = ((numsL xs ++ numsL xs).map (fun v => if v < e then (1 : Int) else 2)).map V.int by rw [List.map_map]; rfl]
  walk_at "vs"
  refine BIN.addL ?_ (by simp; omega)
  rw [← List.map_append]
  refine CMP.nev 2 hR (veq_ints _ _) ?_
  have eq : (0 :: numsL xs).map kI ++ (patL xs e ++ patL xs e) = 0 :: List.replicate (szN xs) 1 ++ (numsL xs ++ numsL xs).map (fun v => if v < e then (1 : Int) else 2) := by
    rw [List.map_cons, kI_nums, List.map_append, ← pat_nums]; rfl
  rw [eq]
  rw [show (!(0 :: List.replicate (szN xs) 1 ++ (numsL xs ++ numsL xs).map (fun v => if v < e then (1 : Int) else 2) == 0 :: List.replicate (szN xs) 1 ++ (numsL xs ++ numsL xs).map (fun v => if v < e then (1 : Int) else 2))) = false by simp]
  walk_at "vs"
  rw [if_neg (by decide)]
  walk_at "vs"
  exact h
theorem law_14 (G : G3 X) (hA : Rm X.A (k + 9)) {pm cd doc dV kV : Value} {L fa : Addr} {xs : List Int} {m : List (Addr × Cell)} {Q : Fl → St → Prop} {e : Int} {w1 w2 : Option V} {a : LxA} {pt : List Int} (hpt : pt.length = szN xs) (h : Q .next ⟨[(Str.ofString "text", some (V.str (txtF xs))), (Str.ofString "few", w1), (Str.ofString "ranks", w2), (Str.ofString "told", some (V.list ((wordsL xs ++ wordsL xs).map V.str))), (Str.ofString "rest", some (V.list ((wordsL xs ++ [Str.ofString "#", Str.ofString ""]).map V.str))), (Str.ofString "chains", Option.none), (Str.ofString "books", Option.none), (Str.ofString "total", Option.none), (Str.ofString "due", Option.none)], [(Str.ofString "script", some (V.list (xs.map V.int))), (Str.ofString "own", some (V.list (ownL.map V.int))), (Str.ofString "cells", some (V.list ((List.range 8).map fun i => nat (cellN xs i)))), (Str.ofString "size", some (nat (szN xs))), (Str.ofString "signs", some (V.list (ettK.map V.str))), (Str.ofString "drawn", some (V.list ((drawnL xs).map V.str))), (Str.ofString "words", some (V.list ((wordsL xs).map V.str))), (Str.ofString "numbers", some (V.list ((numsL xs).map V.int))), (Str.ofString "edge", some (V.int e)), (Str.ofString "lexer", some (V.ref a.L)), (Str.ofString "symbols", some (V.sdict (symF xs e).1 (symF xs e).2)), (Str.ofString "kinds", some (V.list ((pt ++ pt).map V.int))), (Str.ofString "wide", some (nat (pt.count 2))), (Str.ofString "tall", some (nat (pt.count 1))), (Str.ofString "table", Option.none), (Str.ofString "spots", Option.none), (Str.ofString "heaps", Option.none), (Str.ofString "t", Option.none), (Str.ofString "after", Option.none)], [], m⟩) : LS (X.callee (fdLaw pm cd doc dV kV) L fa) 14 ⟨[(Str.ofString "text", some (V.str (txtF xs))), (Str.ofString "few", w1), (Str.ofString "ranks", w2), (Str.ofString "told", some (V.list ((wordsL xs ++ wordsL xs).map V.str))), (Str.ofString "rest", some (V.list ((wordsL xs ++ [Str.ofString "#", Str.ofString ""]).map V.str))), (Str.ofString "chains", Option.none), (Str.ofString "books", Option.none), (Str.ofString "total", Option.none), (Str.ofString "due", Option.none)], [(Str.ofString "script", some (V.list (xs.map V.int))), (Str.ofString "own", some (V.list (ownL.map V.int))), (Str.ofString "cells", some (V.list ((List.range 8).map fun i => nat (cellN xs i)))), (Str.ofString "size", some (nat (szN xs))), (Str.ofString "signs", some (V.list (ettK.map V.str))), (Str.ofString "drawn", some (V.list ((drawnL xs).map V.str))), (Str.ofString "words", some (V.list ((wordsL xs).map V.str))), (Str.ofString "numbers", some (V.list ((numsL xs).map V.int))), (Str.ofString "edge", some (V.int e)), (Str.ofString "lexer", some (V.ref a.L)), (Str.ofString "symbols", some (V.sdict (symF xs e).1 (symF xs e).2)), (Str.ofString "kinds", some (V.list ((pt ++ pt).map V.int))), (Str.ofString "wide", Option.none), (Str.ofString "tall", Option.none), (Str.ofString "table", Option.none), (Str.ofString "spots", Option.none), (Str.ofString "heaps", Option.none), (Str.ofString "t", Option.none), (Str.ofString "after", Option.none)], [], m⟩ Q := by
  refine ⟨?_⟩
  have hR : Rm (X.callee (fdLaw pm cd doc dV kV) L fa).A (k + 8) := hA.deeper
  have hh : (X.callee (fdLaw pm cd doc dV kV) L fa).A.handled = none := hR.handled
  have G' : G3 (X.callee (fdLaw pm cd doc dV kV) L fa) := G.callee
  have sl : sizeLine = 2 ^ 24 := by decide
  have hn := sz_of xs
  have hn6 : szN xs ≤ 6 := sz_le xs
  refine ES.asg ?_ (by walk_at "vside") (by walk_at "vside") (by walk_at "vside")
  walk_at "v"
  walk_at "v"
  refine EV.meth "list" "list.count" F.plainAttrs_list F.slot_list_count F.type_list_count ?_
  walk_at "vs"
  refine ⟨_, rfl, ?_⟩
  walk_at "vs"
  refine SUB.sliceL (by simp; omega) (by decide) ?_
  rw [pickV_map, pick_pt hpt hn]
  refine ⟨TypeV.list, ?_⟩
  walk_at "vs"
  refine CALL.count 1 hR (f := isI 2) (fun d hd => by obtain ⟨v, _, rfl⟩ := List.mem_map.mp hd; rfl) ?_
  rw [count_pt]
  walk_at "vss"
  refine EV.meth "list" "list.count" F.plainAttrs_list F.slot_list_count F.type_list_count ?_
  walk_at "vs"
  refine ⟨_, rfl, ?_⟩
  walk_at "vs"
  refine SUB.sliceL (by simp; omega) (by decide) ?_
  rw [pickV_map, pick_pt hpt hn]
  refine ⟨TypeV.list, ?_⟩
  walk_at "vs"
  refine CALL.count 1 hR (f := isI 1) (fun d hd => by obtain ⟨v, _, rfl⟩ := List.mem_map.mp hd; rfl) ?_
  rw [count_pt]
  walk_at "vss"
  exact h
theorem law_15 (G : G3 X) (hA : Rm X.A (k + 9)) {pm cd doc dV kV : Value} {L fa : Addr} {xs : List Int} {m : List (Addr × Cell)} {Q : Fl → St → Prop} {e : Int} {w1 w2 : Option V} {a : LxA} {pt : List Int} (hpt : pt.length = szN xs) (hg : Good pt) (h : Q .next ⟨[(Str.ofString "text", some (V.str (txtF xs))), (Str.ofString "few", w1), (Str.ofString "ranks", w2), (Str.ofString "told", some (V.list ((wordsL xs ++ wordsL xs).map V.str))), (Str.ofString "rest", some (V.list ((wordsL xs ++ [Str.ofString "#", Str.ofString ""]).map V.str))), (Str.ofString "chains", some (V.list ((chainsF pt).map fun l => V.list (l.map V.int)))), (Str.ofString "books", Option.none), (Str.ofString "total", Option.none), (Str.ofString "due", Option.none)], [(Str.ofString "script", some (V.list (xs.map V.int))), (Str.ofString "own", some (V.list (ownL.map V.int))), (Str.ofString "cells", some (V.list ((List.range 8).map fun i => nat (cellN xs i)))), (Str.ofString "size", some (nat (szN xs))), (Str.ofString "signs", some (V.list (ettK.map V.str))), (Str.ofString "drawn", some (V.list ((drawnL xs).map V.str))), (Str.ofString "words", some (V.list ((wordsL xs).map V.str))), (Str.ofString "numbers", some (V.list ((numsL xs).map V.int))), (Str.ofString "edge", some (V.int e)), (Str.ofString "lexer", some (V.ref a.L)), (Str.ofString "symbols", some (V.sdict (symF xs e).1 (symF xs e).2)), (Str.ofString "kinds", some (V.list ((pt ++ pt).map V.int))), (Str.ofString "wide", some (nat (pt.count 2))), (Str.ofString "tall", some (nat (pt.count 1))), (Str.ofString "table", some (V.list ((tableF (pt.count 1) (pt.count 2)).map fun r => V.list (r.map V.str)))), (Str.ofString "spots", Option.none), (Str.ofString "heaps", Option.none), (Str.ofString "t", Option.none), (Str.ofString "after", Option.none)], [], m⟩) : LS (X.callee (fdLaw pm cd doc dV kV) L fa) 15 ⟨[(Str.ofString "text", some (V.str (txtF xs))), (Str.ofString "few", w1), (Str.ofString "ranks", w2), (Str.ofString "told", some (V.list ((wordsL xs ++ wordsL xs).map V.str))), (Str.ofString "rest", some (V.list ((wordsL xs ++ [Str.ofString "#", Str.ofString ""]).map V.str))), (Str.ofString "chains", Option.none), (Str.ofString "books", Option.none), (Str.ofString "total", Option.none), (Str.ofString "due", Option.none)], [(Str.ofString "script", some (V.list (xs.map V.int))), (Str.ofString "own", some (V.list (ownL.map V.int))), (Str.ofString "cells", some (V.list ((List.range 8).map fun i => nat (cellN xs i)))), (Str.ofString "size", some (nat (szN xs))), (Str.ofString "signs", some (V.list (ettK.map V.str))), (Str.ofString "drawn", some (V.list ((drawnL xs).map V.str))), (Str.ofString "words", some (V.list ((wordsL xs).map V.str))), (Str.ofString "numbers", some (V.list ((numsL xs).map V.int))), (Str.ofString "edge", some (V.int e)), (Str.ofString "lexer", some (V.ref a.L)), (Str.ofString "symbols", some (V.sdict (symF xs e).1 (symF xs e).2)), (Str.ofString "kinds", some (V.list ((pt ++ pt).map V.int))), (Str.ofString "wide", some (nat (pt.count 2))), (Str.ofString "tall", some (nat (pt.count 1))), (Str.ofString "table", Option.none), (Str.ofString "spots", Option.none), (Str.ofString "heaps", Option.none), (Str.ofString "t", Option.none), (Str.ofString "after", Option.none)], [], m⟩ Q := by
  refine ⟨?_⟩
  have hR : Rm (X.callee (fdLaw pm cd doc dV kV) L fa).A (k + 8) := hA.deeper
  have hh : (X.callee (fdLaw pm cd doc dV kV) L fa).A.handled = none := hR.handled
  have G' : G3 (X.callee (fdLaw pm cd doc dV kV) L fa) := G.callee
  have sl : sizeLine = 2 ^ 24 := by decide
  have hn := sz_of xs
  have hn6 : szN xs ≤ 6 := sz_le xs
  have hsum := hg.sum
  refine ES.asg ?_ (by walk_at "vside") (by walk_at "vside") (by walk_at "vside")
  walk_at "vs"
  refine EV.callG (by walk_at "vg") 151 (by walk_at "vgn") (by decide) ?_
  walk_at "vs"
  refine sp_151 (k := k + 5) G' hR ⟨by omega, by omega⟩ ?_
  walk_at "vs"
  refine EV.lcm (α := Nat) ?_ (by kernel_rfl) (by kernel_rfl) rfl (by intro _; rfl)
  refine EV.callT (by walk_at "vg") "range" (by walk_at "vbn") ?_
  walk_at "vs"
  refine CALL.range ?_
  refine ⟨_, _, _, List.range (szN xs), nat, fun t => V.list ((chainF (winF pt t) (pt.count 1) (pt.count 2)).map V.int), ITERC.rngN hh (by omega), by walk_at "vsc", by simp; omega, ?_, ?_⟩
  · intro C D c t ht
    have htn : t < szN xs := by simpa using ht
    obtain ⟨h1, h2⟩ := hg.win t (by omega)
    walk_at "vs"
    refine EV.callG (by walk_at "vg") 161 (by walk_at "vgn") (by decide) ?_
    walk_at "vs"
    refine ⟨_, rfl, ?_⟩
    walk_at "vs"
    refine ⟨_, rfl, ?_⟩
    walk_at "vs"
    refine SUB.sliceL (by simp; omega) (by decide) ?_
    rw [pickV_map, pick_win hpt hn htn]
    walk_at "vs"
    refine sp_161 (k := k + 7) (G3.comp G') hR (by omega) (by omega) h2 ?_
    exact ⟨rfl, by walk_at "vback"⟩
  rw [show (List.range (szN xs)).map (fun t => V.list ((chainF (winF pt t) (pt.count 1) (pt.count 2)).map V.int)) = (chainsF pt).map (fun l => V.list (l.map V.int)) by unfold chainsF; rw [List.map_map, hpt]; rw [← hpt]; rfl]
  walk_at "vss"
  exact h
theorem law_16 (G : G3 X) (hA : Rm X.A (k + 9)) {pm cd doc dV kV : Value} {L fa : Addr} {xs : List Int} {m : List (Addr × Cell)} {Q : Fl → St → Prop} {e : Int} {w1 w2 : Option V} {a : LxA} {pt : List Int} (hpt : pt.length = szN xs) (hg : Good pt) (h : Q .next ⟨[(Str.ofString "text", some (V.str (txtF xs))), (Str.ofString "few", w1), (Str.ofString "ranks", w2), (Str.ofString "told", some (V.list ((wordsL xs ++ wordsL xs).map V.str))), (Str.ofString "rest", some (V.list ((wordsL xs ++ [Str.ofString "#", Str.ofString ""]).map V.str))), (Str.ofString "chains", some (V.list ((chainsF pt).map fun l => V.list (l.map V.int)))), (Str.ofString "books", Option.none), (Str.ofString "total", Option.none), (Str.ofString "due", Option.none)], [(Str.ofString "script", some (V.list (xs.map V.int))), (Str.ofString "own", some (V.list (ownL.map V.int))), (Str.ofString "cells", some (V.list ((List.range 8).map fun i => nat (cellN xs i)))), (Str.ofString "size", some (nat (szN xs))), (Str.ofString "signs", some (V.list (ettK.map V.str))), (Str.ofString "drawn", some (V.list ((drawnL xs).map V.str))), (Str.ofString "words", some (V.list ((wordsL xs).map V.str))), (Str.ofString "numbers", some (V.list ((numsL xs).map V.int))), (Str.ofString "edge", some (V.int e)), (Str.ofString "lexer", some (V.ref a.L)), (Str.ofString "symbols", some (V.sdict (symF xs e).1 (symF xs e).2)), (Str.ofString "kinds", some (V.list ((pt ++ pt).map V.int))), (Str.ofString "wide", some (nat (pt.count 2))), (Str.ofString "tall", some (nat (pt.count 1))), (Str.ofString "table", some (V.list ((tableF (pt.count 1) (pt.count 2)).map fun r => V.list (r.map V.str)))), (Str.ofString "spots", some (V.rng 0 ((pt.count 1 * pt.count 2 : Nat) : Int))), (Str.ofString "heaps", Option.none), (Str.ofString "t", Option.none), (Str.ofString "after", Option.none)], [], m⟩) : LS (X.callee (fdLaw pm cd doc dV kV) L fa) 16 ⟨[(Str.ofString "text", some (V.str (txtF xs))), (Str.ofString "few", w1), (Str.ofString "ranks", w2), (Str.ofString "told", some (V.list ((wordsL xs ++ wordsL xs).map V.str))), (Str.ofString "rest", some (V.list ((wordsL xs ++ [Str.ofString "#", Str.ofString ""]).map V.str))), (Str.ofString "chains", some (V.list ((chainsF pt).map fun l => V.list (l.map V.int)))), (Str.ofString "books", Option.none), (Str.ofString "total", Option.none), (Str.ofString "due", Option.none)], [(Str.ofString "script", some (V.list (xs.map V.int))), (Str.ofString "own", some (V.list (ownL.map V.int))), (Str.ofString "cells", some (V.list ((List.range 8).map fun i => nat (cellN xs i)))), (Str.ofString "size", some (nat (szN xs))), (Str.ofString "signs", some (V.list (ettK.map V.str))), (Str.ofString "drawn", some (V.list ((drawnL xs).map V.str))), (Str.ofString "words", some (V.list ((wordsL xs).map V.str))), (Str.ofString "numbers", some (V.list ((numsL xs).map V.int))), (Str.ofString "edge", some (V.int e)), (Str.ofString "lexer", some (V.ref a.L)), (Str.ofString "symbols", some (V.sdict (symF xs e).1 (symF xs e).2)), (Str.ofString "kinds", some (V.list ((pt ++ pt).map V.int))), (Str.ofString "wide", some (nat (pt.count 2))), (Str.ofString "tall", some (nat (pt.count 1))), (Str.ofString "table", some (V.list ((tableF (pt.count 1) (pt.count 2)).map fun r => V.list (r.map V.str)))), (Str.ofString "spots", Option.none), (Str.ofString "heaps", Option.none), (Str.ofString "t", Option.none), (Str.ofString "after", Option.none)], [], m⟩ Q := by
  refine ⟨?_⟩
  have hR : Rm (X.callee (fdLaw pm cd doc dV kV) L fa).A (k + 8) := hA.deeper
  have hh : (X.callee (fdLaw pm cd doc dV kV) L fa).A.handled = none := hR.handled
  have G' : G3 (X.callee (fdLaw pm cd doc dV kV) L fa) := G.callee
  have sl : sizeLine = 2 ^ 24 := by decide
  have hn := sz_of xs
  have hn6 : szN xs ≤ 6 := sz_le xs
  have hsum := hg.sum
  refine ES.asg ?_ (by walk_at "vside") (by walk_at "vside") (by walk_at "vside")
  refine EV.callT (by walk_at "vg") "range" (by walk_at "vbn") ?_
  walk_at "vs"
  refine BIN.mul ?_ (by omega)
  walk_at "vs"
  refine CALL.range ?_
  rw [← Int.natCast_mul]
  walk_at "vs"
  exact h
end

end
section
set_option compiler.extract_closed false
set_option maxHeartbeats 1000000


theorem spots_len {T W : Nat} (h : T ≤ 6 ∧ W ≤ 6) : (spotsF T W).length = T * W := by
  have : ∀ T < 7, ∀ W < 7, (spotsF T W).length = T * W := by decide +kernel
  exact this T (by omega) W (by omega)
theorem table_len {T W : Nat} (h : T ≤ 6 ∧ W ≤ 6) : (tableF T W).length = T * W := by unfold tableF; rw [List.length_map, spots_len h]
theorem row_len {T W : Nat} (h : T ≤ 6 ∧ W ≤ 6) {x : Nat} (hx : x < T * W) : ((tableF T W).getD x []).length = T * W := by
  have h1 : x < (spotsF T W).length := by rw [spots_len h]; exact hx
  unfold tableF
  rw [List.getD_eq_getElem?_getD, List.getElem?_map, List.getElem?_eq_getElem h1]
  show ((spotsF T W).map _).length = _
  rw [List.length_map, spots_len h]
theorem prod_le {T W : Nat} (h : T + W ≤ 6) : T * W ≤ 36 := by
  have : ∀ T < 7, ∀ W < 7, T * W ≤ 36 := by decide
  exact this T (by omega) W (by omega)
noncomputable def strIs (r : Str) : V → Bool
  | .str s => s == r
  | _ => false
section
variable {X : Cx} {σ : St} {k : Nat} {P : V → St → Prop}
theorem law_17 (G : G3 X) (hA : Rm X.A (k + 9)) {pm cd doc dV kV : Value} {L fa : Addr} {xs : List Int} {m : List (Addr × Cell)} {Q : Fl → St → Prop} {e : Int} {w1 w2 : Option V} {a : LxA} {pt : List Int} (hpt : pt.length = szN xs) (hg : Good pt) (hlen : ∀ c ∈ chainsF pt, c.length ≤ sizeLine) (h : Q .next ⟨[(Str.ofString "text", some (V.str (txtF xs))), (Str.ofString "few", w1), (Str.ofString "ranks", w2), (Str.ofString "told", some (V.list ((wordsL xs ++ wordsL xs).map V.str))), (Str.ofString "rest", some (V.list ((wordsL xs ++ [Str.ofString "#", Str.ofString ""]).map V.str))), (Str.ofString "chains", some (V.list ((chainsF pt).map fun l => V.list (l.map V.int)))), (Str.ofString "books", Option.none), (Str.ofString "total", Option.none), (Str.ofString "due", Option.none)], [(Str.ofString "script", some (V.list (xs.map V.int))), (Str.ofString "own", some (V.list (ownL.map V.int))), (Str.ofString "cells", some (V.list ((List.range 8).map fun i => nat (cellN xs i)))), (Str.ofString "size", some (nat (szN xs))), (Str.ofString "signs", some (V.list (ettK.map V.str))), (Str.ofString "drawn", some (V.list ((drawnL xs).map V.str))), (Str.ofString "words", some (V.list ((wordsL xs).map V.str))), (Str.ofString "numbers", some (V.list ((numsL xs).map V.int))), (Str.ofString "edge", some (V.int e)), (Str.ofString "lexer", some (V.ref a.L)), (Str.ofString "symbols", some (V.sdict (symF xs e).1 (symF xs e).2)), (Str.ofString "kinds", some (V.list ((pt ++ pt).map V.int))), (Str.ofString "wide", some (nat (pt.count 2))), (Str.ofString "tall", some (nat (pt.count 1))), (Str.ofString "table", some (V.list ((tableF (pt.count 1) (pt.count 2)).map fun r => V.list (r.map V.str)))), (Str.ofString "spots", some (V.rng 0 ((pt.count 1 * pt.count 2 : Nat) : Int))), (Str.ofString "heaps", some (V.list ((heapsF pt).map fun l => V.list (l.map V.int)))), (Str.ofString "t", Option.none), (Str.ofString "after", Option.none)], [], m⟩) : LS (X.callee (fdLaw pm cd doc dV kV) L fa) 17 ⟨[(Str.ofString "text", some (V.str (txtF xs))), (Str.ofString "few", w1), (Str.ofString "ranks", w2), (Str.ofString "told", some (V.list ((wordsL xs ++ wordsL xs).map V.str))), (Str.ofString "rest", some (V.list ((wordsL xs ++ [Str.ofString "#", Str.ofString ""]).map V.str))), (Str.ofString "chains", some (V.list ((chainsF pt).map fun l => V.list (l.map V.int)))), (Str.ofString "books", Option.none), (Str.ofString "total", Option.none), (Str.ofString "due", Option.none)], [(Str.ofString "script", some (V.list (xs.map V.int))), (Str.ofString "own", some (V.list (ownL.map V.int))), (Str.ofString "cells", some (V.list ((List.range 8).map fun i => nat (cellN xs i)))), (Str.ofString "size", some (nat (szN xs))), (Str.ofString "signs", some (V.list (ettK.map V.str))), (Str.ofString "drawn", some (V.list ((drawnL xs).map V.str))), (Str.ofString "words", some (V.list ((wordsL xs).map V.str))), (Str.ofString "numbers", some (V.list ((numsL xs).map V.int))), (Str.ofString "edge", some (V.int e)), (Str.ofString "lexer", some (V.ref a.L)), (Str.ofString "symbols", some (V.sdict (symF xs e).1 (symF xs e).2)), (Str.ofString "kinds", some (V.list ((pt ++ pt).map V.int))), (Str.ofString "wide", some (nat (pt.count 2))), (Str.ofString "tall", some (nat (pt.count 1))), (Str.ofString "table", some (V.list ((tableF (pt.count 1) (pt.count 2)).map fun r => V.list (r.map V.str)))), (Str.ofString "spots", some (V.rng 0 ((pt.count 1 * pt.count 2 : Nat) : Int))), (Str.ofString "heaps", Option.none), (Str.ofString "t", Option.none), (Str.ofString "after", Option.none)], [], m⟩ Q := by
  refine ⟨?_⟩
  have hR : Rm (X.callee (fdLaw pm cd doc dV kV) L fa).A (k + 8) := hA.deeper
  have hh : (X.callee (fdLaw pm cd doc dV kV) L fa).A.handled = none := hR.handled
  have G' : G3 (X.callee (fdLaw pm cd doc dV kV) L fa) := G.callee
  have sl : sizeLine = 2 ^ 24 := by decide
  have hn := sz_of xs
  have hn6 : szN xs ≤ 6 := sz_le xs
  have hsum := hg.sum
  have hb : pt.count 1 ≤ 6 ∧ pt.count 2 ≤ 6 := ⟨by omega, by omega⟩
  have hN := prod_le (T := pt.count 1) (W := pt.count 2) (by omega)
  have hcl := chains_len pt
  refine ES.asg ?_ (by walk_at "vside") (by walk_at "vside") (by walk_at "vside")
  refine EV.lcm (α := List Int) ?_ (by kernel_rfl) (by kernel_rfl) rfl (by intro _; rfl)
  walk_at "vs"
  refine ⟨_, _, _, chainsF pt, fun l => V.list (l.map V.int), fun l => V.list ((heapF (pt.count 1) (pt.count 2) l).map V.int), ITERC.list hh, by walk_at "vsc", by omega, ?_, ?_⟩
  · intro C D c ch hch
    have hcy := hg.ch ch hch
    walk_at "vs"
    refine EV.lcf (α := Nat) ?_ (by kernel_rfl) (by kernel_rfl) rfl (by intro _; rfl)
    walk_at "vs"
    refine ⟨_, _, _, List.range (pt.count 1 * pt.count 2), nat, nat, fun x => !(ch.filter fun y => relAt (pt.count 1) (pt.count 2) x y.toNat == "=" || relAt (pt.count 1) (pt.count 2) x y.toNat == "<").isEmpty, ITERC.rngN hh (by omega), by walk_at "vsc", by simp; omega, ?_, ?_⟩
    · intro C2 D2 c2 x hx
      have hxN : x < pt.count 1 * pt.count 2 := by simpa using hx
      walk_at "vs"
      refine EV.lcf (α := Int) ?_ (by kernel_rfl) (by kernel_rfl) rfl (by intro _; rfl)
      walk_at "vs"
      refine ⟨_, _, _, ch, V.int, V.int, fun y => relAt (pt.count 1) (pt.count 2) x y.toNat == "=" || relAt (pt.count 1) (pt.count 2) x y.toNat == "<", ITERC.list hh, by walk_at "vsc", hlen ch hch, ?_, ?_⟩
      · intro C3 D3 c3 y hy
        have hy0 := hcy y hy
        walk_at "vs"
        refine SUB.li x [] rfl (by rw [table_len hb]; omega) (by rw [table_len hb]; omega) ?_
        walk_at "vs"
        refine SUB.li y.toNat "" (by omega) (by rw [row_len hb (by omega)]; omega) (by rw [row_len hb (by omega)]; omega) ?_
        walk_at "vss"
        refine CMP.inT 1 hR (f := strIs (relAt (pt.count 1) (pt.count 2) x y.toNat)) (fun d hd => ?_) ?_
        · simp only [List.mem_cons, List.not_mem_nil, or_false] at hd
          rcases hd with rfl | rfl <;> rfl
        walk_at "vs"
        have e1 : [V.str (Str.ofString "="), V.str (Str.ofString "<")].any (strIs (relAt (pt.count 1) (pt.count 2) x y.toNat)) = (relAt (pt.count 1) (pt.count 2) x y.toNat == "=" || relAt (pt.count 1) (pt.count 2) x y.toNat == "<") := by
          show ((Str.ofString "=" == relAt _ _ x y.toNat) || ((Str.ofString "<" == relAt _ _ x y.toNat) || false)) = _
          rw [Bool.or_false, BEq.comm, BEq.comm (a := Str.ofString "<")]
        rw [e1]
        refine ⟨rfl, ?_⟩
        split
        · walk_at "vs"
          exact ⟨rfl, by walk_at "vback"⟩
        · exact by walk_at "vback"
      walk_at "vs"
      refine EV.list ?_
      walk_at "vss"
      refine CMP.nev 2 hR (veq_ints _ []) ?_
      walk_at "vs"
      have e2 : (!(ch.filter (fun y => relAt (pt.count 1) (pt.count 2) x y.toNat == "=" || relAt (pt.count 1) (pt.count 2) x y.toNat == "<") == [])) = !(ch.filter fun y => relAt (pt.count 1) (pt.count 2) x y.toNat == "=" || relAt (pt.count 1) (pt.count 2) x y.toNat == "<").isEmpty := by
        generalize ch.filter _ = l
        cases l <;> rfl
      rw [e2]
      refine ⟨rfl, ?_⟩
      split
      · walk_at "vs"
        exact ⟨rfl, by walk_at "vback"⟩
      · exact by walk_at "vback"
    refine ⟨?_, by walk_at "vback"⟩
    unfold heapF
    rw [List.map_map]; rfl
  rw [show (chainsF pt).map (fun l => V.list ((heapF (pt.count 1) (pt.count 2) l).map V.int)) = (heapsF pt).map (fun l => V.list (l.map V.int)) by unfold heapsF; rw [List.map_map]; rfl]
  walk_at "vs"
  exact h
end

end
section
set_option compiler.extract_closed false
set_option maxHeartbeats 1000000


theorem any_inI (x : Int) (l : List Int) : (l.map V.int).any (isI x) = inI x l := by rw [List.any_map]; rfl
theorem isI_hf (x : Int) (l : List Int) : ∀ d ∈ l.map V.int, veq 1 d (.int x) = some (isI x d) := fun d hd => by obtain ⟨v, _, rfl⟩ := List.mem_map.mp hd; rfl
theorem heap_mem {T W : Nat} {c : List Int} : ∀ y ∈ heapF T W c, 0 ≤ y ∧ y < ((T * W : Nat) : Int) := fun y hy => by
  obtain ⟨x, hx, rfl⟩ := List.mem_map.mp hy
  have := List.mem_range.mp (List.mem_filter.mp hx).1
  walk_at "o"
theorem heap_len {T W : Nat} {c : List Int} : (heapF T W c).length ≤ T * W := by
  unfold heapF
  rw [List.length_map]
  exact Nat.le_trans (List.length_filter_le ..) (by simp)
theorem heaps_mem {pt : List Int} {l : List Int} (h : l ∈ heapsF pt) : l.length ≤ pt.count 1 * pt.count 2 ∧ ∀ y ∈ l, 0 ≤ y ∧ y < ((pt.count 1 * pt.count 2 : Nat) : Int) := by
  obtain ⟨c, _, rfl⟩ := List.mem_map.mp h
  exact ⟨heap_len, heap_mem⟩
theorem getD_mem' {α : Type} {l : List α} {i : Nat} {d : α} (h : i < l.length) : l.getD i d ∈ l := by
  rw [List.getD_eq_getElem?_getD, List.getElem?_eq_getElem h]; exact List.getElem_mem h
theorem ins_perm (x : Int) : ∀ l : List Int, (insI x l).Perm (x :: l)
  | [] => .refl _
  | y :: l => by
    unfold insI
    split
    · exact .refl _
    · exact ((ins_perm x l).cons y).trans (.swap x y l)
theorem ins_sorted (x : Int) : ∀ l : List Int, l.Pairwise (· ≤ ·) → (insI x l).Pairwise (· ≤ ·)
  | [], _ => by simp [insI]
  | y :: l, h => by
    unfold insI
    have h1 := List.pairwise_cons.mp h
    split
    · rename_i hxy
      refine List.pairwise_cons.mpr ⟨fun z hz => ?_, h⟩
      rcases List.mem_cons.mp hz with rfl | hz
      · exact hxy
      · have := h1.1 z hz; walk_at "o"
    · rename_i hxy
      refine List.pairwise_cons.mpr ⟨fun z hz => ?_, ins_sorted x l h1.2⟩
      rcases List.mem_cons.mp ((ins_perm x l).mem_iff.mp hz) with rfl | hz
      · walk_at "o"
      · exact h1.1 z hz
theorem srt_perm : ∀ l : List Int, (srt l).Perm l
  | [] => .refl _
  | x :: l => (ins_perm x (srt l)).trans ((srt_perm l).cons x)
theorem srt_sorted : ∀ l : List Int, (srt l).Pairwise (· ≤ ·)
  | [] => List.Pairwise.nil
  | x :: l => ins_sorted x _ (srt_sorted l)
theorem srt_eq {l l' : List Int} (h1 : l'.Perm l) (h2 : l'.Pairwise (· ≤ ·)) : l' = srt l :=
  List.Perm.eq_of_pairwise (le := (· ≤ ·)) (fun a b _ _ h h' => Int.le_antisymm h h') h2 (srt_sorted l) (h1.trans (srt_perm l).symm)
theorem beq_nil {α : Type} [BEq α] (l : List α) : (l == []) = l.isEmpty := by cases l <;> rfl
structure Checks (pt : List Int) : Prop where
  c1 : ∀ t < pt.length, chk1 (pt.count 1) (pt.count 2) (heapsF pt) t = true
  c2 : ∀ t < pt.length, chk2 (pt.count 1) (pt.count 2) (chainsF pt) (heapsF pt) t = true
  c3 : ∀ t < pt.length, chk3 (pt.count 1) (pt.count 2) (chainsF pt) (heapsF pt) t = true
  len : ∀ c ∈ chainsF pt, c.length ≤ 6
section
variable {X : Cx} {σ : St} {k : Nat} {P : V → St → Prop}
theorem law_18 (G : G3 X) (hA : Rm X.A (k + 9)) {pm cd doc dV kV : Value} {L fa : Addr} {xs : List Int} {m : List (Addr × Cell)} {Q : Fl → St → Prop} {e : Int} {w1 w2 : Option V} {a : LxA} {pt : List Int} (hpt : pt.length = szN xs) (hg : Good pt) (hc : Checks pt) (h : ∀ w3 w4, Q .next ⟨[(Str.ofString "text", some (V.str (txtF xs))), (Str.ofString "few", w1), (Str.ofString "ranks", w2), (Str.ofString "told", some (V.list ((wordsL xs ++ wordsL xs).map V.str))), (Str.ofString "rest", some (V.list ((wordsL xs ++ [Str.ofString "#", Str.ofString ""]).map V.str))), (Str.ofString "chains", some (V.list ((chainsF pt).map fun l => V.list (l.map V.int)))), (Str.ofString "books", Option.none), (Str.ofString "total", Option.none), (Str.ofString "due", Option.none)], [(Str.ofString "script", some (V.list (xs.map V.int))), (Str.ofString "own", some (V.list (ownL.map V.int))), (Str.ofString "cells", some (V.list ((List.range 8).map fun i => nat (cellN xs i)))), (Str.ofString "size", some (nat (szN xs))), (Str.ofString "signs", some (V.list (ettK.map V.str))), (Str.ofString "drawn", some (V.list ((drawnL xs).map V.str))), (Str.ofString "words", some (V.list ((wordsL xs).map V.str))), (Str.ofString "numbers", some (V.list ((numsL xs).map V.int))), (Str.ofString "edge", some (V.int e)), (Str.ofString "lexer", some (V.ref a.L)), (Str.ofString "symbols", some (V.sdict (symF xs e).1 (symF xs e).2)), (Str.ofString "kinds", some (V.list ((pt ++ pt).map V.int))), (Str.ofString "wide", some (nat (pt.count 2))), (Str.ofString "tall", some (nat (pt.count 1))), (Str.ofString "table", some (V.list ((tableF (pt.count 1) (pt.count 2)).map fun r => V.list (r.map V.str)))), (Str.ofString "spots", some (V.rng 0 ((pt.count 1 * pt.count 2 : Nat) : Int))), (Str.ofString "heaps", some (V.list ((heapsF pt).map fun l => V.list (l.map V.int)))), (Str.ofString "t", w3), (Str.ofString "after", w4)], [], m⟩) : LS (X.callee (fdLaw pm cd doc dV kV) L fa) 18 ⟨[(Str.ofString "text", some (V.str (txtF xs))), (Str.ofString "few", w1), (Str.ofString "ranks", w2), (Str.ofString "told", some (V.list ((wordsL xs ++ wordsL xs).map V.str))), (Str.ofString "rest", some (V.list ((wordsL xs ++ [Str.ofString "#", Str.ofString ""]).map V.str))), (Str.ofString "chains", some (V.list ((chainsF pt).map fun l => V.list (l.map V.int)))), (Str.ofString "books", Option.none), (Str.ofString "total", Option.none), (Str.ofString "due", Option.none)], [(Str.ofString "script", some (V.list (xs.map V.int))), (Str.ofString "own", some (V.list (ownL.map V.int))), (Str.ofString "cells", some (V.list ((List.range 8).map fun i => nat (cellN xs i)))), (Str.ofString "size", some (nat (szN xs))), (Str.ofString "signs", some (V.list (ettK.map V.str))), (Str.ofString "drawn", some (V.list ((drawnL xs).map V.str))), (Str.ofString "words", some (V.list ((wordsL xs).map V.str))), (Str.ofString "numbers", some (V.list ((numsL xs).map V.int))), (Str.ofString "edge", some (V.int e)), (Str.ofString "lexer", some (V.ref a.L)), (Str.ofString "symbols", some (V.sdict (symF xs e).1 (symF xs e).2)), (Str.ofString "kinds", some (V.list ((pt ++ pt).map V.int))), (Str.ofString "wide", some (nat (pt.count 2))), (Str.ofString "tall", some (nat (pt.count 1))), (Str.ofString "table", some (V.list ((tableF (pt.count 1) (pt.count 2)).map fun r => V.list (r.map V.str)))), (Str.ofString "spots", some (V.rng 0 ((pt.count 1 * pt.count 2 : Nat) : Int))), (Str.ofString "heaps", some (V.list ((heapsF pt).map fun l => V.list (l.map V.int)))), (Str.ofString "t", Option.none), (Str.ofString "after", Option.none)], [], m⟩ Q := by
  refine ⟨?_⟩
  have hR : Rm (X.callee (fdLaw pm cd doc dV kV) L fa).A (k + 8) := hA.deeper
  have hh : (X.callee (fdLaw pm cd doc dV kV) L fa).A.handled = none := hR.handled
  have G' : G3 (X.callee (fdLaw pm cd doc dV kV) L fa) := G.callee
  have sl : sizeLine = 2 ^ 24 := by decide
  have hn := sz_of xs
  have hn6 : szN xs ≤ 6 := sz_le xs
  have hsum := hg.sum
  have hb : pt.count 1 ≤ 6 ∧ pt.count 2 ≤ 6 := ⟨by walk_at "o", by walk_at "o"⟩
  have hN := prod_le (T := pt.count 1) (W := pt.count 2) (by walk_at "o")
  have hcl : (chainsF pt).length = szN xs := (chains_len pt).trans hpt
  have hhl : (heapsF pt).length = szN xs := (heaps_len pt).trans hpt
  refine ES.for hh ?_
  refine EV.callT (by walk_at "vg") "range" (by walk_at "vbn") ?_
  walk_at "vs"
  refine CALL.range ?_
  refine ⟨_, ITER.rngN hh (by walk_at "o"), fun _ σ1 => ∃ w3 w4, σ1 = ⟨[(Str.ofString "text", some (V.str (txtF xs))), (Str.ofString "few", w1), (Str.ofString "ranks", w2), (Str.ofString "told", some (V.list ((wordsL xs ++ wordsL xs).map V.str))), (Str.ofString "rest", some (V.list ((wordsL xs ++ [Str.ofString "#", Str.ofString ""]).map V.str))), (Str.ofString "chains", some (V.list ((chainsF pt).map fun l => V.list (l.map V.int)))), (Str.ofString "books", Option.none), (Str.ofString "total", Option.none), (Str.ofString "due", Option.none)], [(Str.ofString "script", some (V.list (xs.map V.int))), (Str.ofString "own", some (V.list (ownL.map V.int))), (Str.ofString "cells", some (V.list ((List.range 8).map fun i => nat (cellN xs i)))), (Str.ofString "size", some (nat (szN xs))), (Str.ofString "signs", some (V.list (ettK.map V.str))), (Str.ofString "drawn", some (V.list ((drawnL xs).map V.str))), (Str.ofString "words", some (V.list ((wordsL xs).map V.str))), (Str.ofString "numbers", some (V.list ((numsL xs).map V.int))), (Str.ofString "edge", some (V.int e)), (Str.ofString "lexer", some (V.ref a.L)), (Str.ofString "symbols", some (V.sdict (symF xs e).1 (symF xs e).2)), (Str.ofString "kinds", some (V.list ((pt ++ pt).map V.int))), (Str.ofString "wide", some (nat (pt.count 2))), (Str.ofString "tall", some (nat (pt.count 1))), (Str.ofString "table", some (V.list ((tableF (pt.count 1) (pt.count 2)).map fun r => V.list (r.map V.str)))), (Str.ofString "spots", some (V.rng 0 ((pt.count 1 * pt.count 2 : Nat) : Int))), (Str.ofString "heaps", some (V.list ((heapsF pt).map fun l => V.list (l.map V.int)))), (Str.ofString "t", w3), (Str.ofString "after", w4)], [], m⟩, ⟨Option.none, Option.none, rfl⟩, ?_, ?_⟩
  · rintro j dj σ1 hj ⟨w3, w4, rfl⟩
    rw [List.getElem?_map, Option.map_eq_some_iff] at hj
    obtain ⟨t, ht', rfl⟩ := hj
    have ht : t < szN xs := by obtain ⟨e, h⟩ := range_at ht'; rw [e]; exact h
    have hn0 : 0 < szN xs := Nat.zero_lt_of_lt ht
    have ht1 : (t + 1) % szN xs < szN xs := Nat.mod_lt _ hn0
    have hk1 := hc.c1 t (by walk_at "o")
    have hk2 := hc.c2 t (by walk_at "o")
    have hk3 := hc.c3 t (by walk_at "o")
    have hht := heaps_mem (getD_mem' (l := heapsF pt) (d := []) (i := t) (by walk_at "o"))
    have hha := heaps_mem (getD_mem' (l := heapsF pt) (d := []) (i := (t + 1) % szN xs) (by walk_at "o"))
    have hch := hc.len _ (getD_mem' (l := chainsF pt) (d := []) (i := t) (by walk_at "o"))
    walk_at "vs"
    rw [show ((t : Nat) : Int) + 1 = ((t + 1 : Nat) : Int) from rfl]
    refine BIN.modN (szN xs) ?_ (by walk_at "o")
    refine SUB.li ((t + 1) % szN xs) [] rfl (by walk_at "o") (by walk_at "o") ?_
    walk_at "v"
    walk_at "v"
    walk_at "v"
    refine ET.cmp ?_
    refine EV.lcf (α := Nat) ?_ (by kernel_rfl) (by kernel_rfl) rfl (by intro _; rfl)
    walk_at "vs"
    refine ⟨_, _, _, List.range ((pt.count 1) * (pt.count 2)), nat, nat, fun x => (inI x ((heapsF pt).getD t []) == inI (((pt.count 1) : Int) * (pt.count 2) - 1 - x) ((heapsF pt).getD ((t + x / (pt.count 2) + x % (pt.count 2) + 1) % szN xs) [])), ITERC.rngN hh (by walk_at "o"), by walk_at "vsc", by simp; walk_at "o", ?_, ?_⟩
    · intro C D c x hx
      have hxN : x < (pt.count 1) * (pt.count 2) := by simpa using hx
      have hW0 : 0 < (pt.count 2) := Nat.pos_of_ne_zero fun e0 => by rw [e0, Nat.mul_zero] at hxN; walk_at "o"
      have hidx : (t + x / (pt.count 2) + x % (pt.count 2) + 1) % szN xs < szN xs := Nat.mod_lt _ hn0
      walk_at "vs"
      refine SUB.li t [] rfl (by walk_at "o") (by walk_at "o") ?_
      refine CMP.inL 1 hR (isI_hf _ _) ?_
      rw [any_inI]
      walk_at "vs"
      refine BIN.mul ?_ (by walk_at "o")
      walk_at "vs"
      refine BIN.divN (pt.count 2) ?_ (by walk_at "o")
      refine BIN.add ?_
      walk_at "vs"
      refine BIN.modN (pt.count 2) ?_ (by walk_at "o")
      refine BIN.add ?_
      walk_at "vs"
      rw [show ((t : Nat) : Int) + ((x / (pt.count 2) : Nat) : Int) + ((x % (pt.count 2) : Nat) : Int) + 1 = ((t + x / (pt.count 2) + x % (pt.count 2) + 1 : Nat) : Int) by simp]
      refine BIN.modN (szN xs) ?_ (by walk_at "o")
      refine SUB.li ((t + x / (pt.count 2) + x % (pt.count 2) + 1) % szN xs) [] rfl (by walk_at "o") (by walk_at "o") ?_
      refine CMP.inL 1 hR (isI_hf _ _) ?_
      rw [any_inI]
      refine CMP.boolEq hR ?_
      walk_at "vs"
      refine ⟨rfl, ?_⟩
      split
      · walk_at "vs"
        exact ⟨rfl, by walk_at "vback"⟩
      · exact by walk_at "vback"
    have e1 : (List.range ((pt.count 1) * (pt.count 2))).filter (fun x : Nat => (inI (x : Int) ((heapsF pt).getD t []) == inI (((pt.count 1) : Int) * (pt.count 2) - 1 - x) ((heapsF pt).getD ((t + x / (pt.count 2) + x % (pt.count 2) + 1) % szN xs) []))) = [] := by
      refine List.filter_eq_nil_iff.mpr fun x hx => ?_
      have := List.all_eq_true.mp hk1 x hx
      rw [← hpt, ← hsum]
      simpa using this
    rw [e1]
    refine EV.list ?_
    walk_at "vss"
    refine CMP.nev 2 hR (veq_ints [] []) ?_
    walk_at "vs"
    rw [if_neg (by decide)]
    walk_at "v"
    walk_at "v"
    walk_at "v"
    refine ET.cmp ?_
    refine EV.lcf (α := Int) ?_ (by kernel_rfl) (by kernel_rfl) rfl (by intro _; rfl)
    walk_at "vs"
    refine SUB.li t [] rfl (by walk_at "o") (by walk_at "o") ?_
    refine ⟨_, _, _, (heapsF pt).getD t [], V.int, V.int, fun x => (((heapsF pt).getD t []).filter fun y => relAt (pt.count 1) (pt.count 2) x.toNat y.toNat == "<").isEmpty, ITERC.list hh, by walk_at "vsc", by walk_at "o", ?_, ?_⟩
    · intro C D c x hx
      have hx0 := hht.2 x hx
      walk_at "vs"
      refine EV.lcf (α := Int) ?_ (by kernel_rfl) (by kernel_rfl) rfl (by intro _; rfl)
      walk_at "vs"
      refine SUB.li t [] rfl (by walk_at "o") (by walk_at "o") ?_
      refine ⟨_, _, _, (heapsF pt).getD t [], V.int, V.int, fun y => relAt (pt.count 1) (pt.count 2) x.toNat y.toNat == "<", ITERC.list hh, by walk_at "vsc", by walk_at "o", ?_, ?_⟩
      · intro C2 D2 c2 y hy
        have hy0 := hht.2 y hy
        walk_at "vs"
        refine SUB.li x.toNat [] (by walk_at "o") (by rw [table_len hb]; walk_at "o") (by rw [table_len hb]; walk_at "o") ?_
        walk_at "vs"
        refine SUB.li y.toNat "" (by walk_at "o") (by rw [row_len hb (by walk_at "o")]; walk_at "o") (by rw [row_len hb (by walk_at "o")]; walk_at "o") ?_
        walk_at "vs"
        refine ⟨rfl, ?_⟩
        split
        · walk_at "vs"
          exact ⟨rfl, by walk_at "vback"⟩
        · exact by walk_at "vback"
      walk_at "vs"
      refine EV.list ?_
      walk_at "vss"
      refine CMP.eqv 2 hR (veq_ints _ []) ?_
      walk_at "vs"
      rw [beq_nil]
      refine ⟨rfl, ?_⟩
      split
      · walk_at "vs"
        exact ⟨rfl, by walk_at "vback"⟩
      · exact by walk_at "vback"
    refine EV.callB (by walk_at "vg") "sorted" (by walk_at "vbn") ?_
    walk_at "vs"
    refine SUB.li t [] rfl (by walk_at "o") (by walk_at "o") ?_
    walk_at "vs"
    refine CALL.sorted (by walk_at "o") (fun l' h1 h2 => ?_)
    rw [srt_eq h1 h2]
    refine CMP.nev 2 hR (veq_ints _ _) ?_
    have e2 : (((heapsF pt).getD t []).filter fun x => (((heapsF pt).getD t []).filter fun y => relAt (pt.count 1) (pt.count 2) x.toNat y.toNat == "<").isEmpty) = srt ((chainsF pt).getD t []) := eq_of_beq hk2
    rw [e2]
    rw [show (!(srt ((chainsF pt).getD t []) == srt ((chainsF pt).getD t []))) = false by simp]
    walk_at "vs"
    rw [if_neg (by decide)]
    walk_at "v"
    walk_at "v"
    walk_at "v"
    refine ET.cmp ?_
    refine EV.lcf (α := Nat) ?_ (by kernel_rfl) (by kernel_rfl) rfl (by intro _; rfl)
    walk_at "vs"
    refine ⟨_, _, _, List.range ((pt.count 1) * (pt.count 2)), nat, nat, fun x => !inI x ((heapsF pt).getD ((t + 1) % szN xs) []) && ((List.range ((pt.count 1) * (pt.count 2))).filter fun y : Nat => !inI y ((heapsF pt).getD ((t + 1) % szN xs) []) && relAt (pt.count 1) (pt.count 2) y x == "<").isEmpty, ITERC.rngN hh (by walk_at "o"), by walk_at "vsc", by simp; walk_at "o", ?_, ?_⟩
    · intro C D c x hx
      have hxN : x < (pt.count 1) * (pt.count 2) := by simpa using hx
      walk_at "vs"
      refine CMP.ninL 1 hR (isI_hf _ _) ?_
      rw [any_inI]
      walk_at "vs"
      by_cases hin : inI x ((heapsF pt).getD ((t + 1) % szN xs) []) = true
      · rw [if_neg (by rw [hin]; decide)]
        refine ⟨by rw [hin]; rfl, ?_⟩
        rw [if_neg (by rw [hin]; simp)]
        exact by walk_at "vback"
      have hin' : inI x ((heapsF pt).getD ((t + 1) % szN xs) []) = false := by simpa using hin
      rw [if_pos (by rw [hin']; decide)]
      walk_at "vs"
      refine EV.lcf (α := Nat) ?_ (by kernel_rfl) (by kernel_rfl) rfl (by intro _; rfl)
      walk_at "vs"
      refine ⟨_, _, _, List.range ((pt.count 1) * (pt.count 2)), nat, nat, fun y => !inI y ((heapsF pt).getD ((t + 1) % szN xs) []) && relAt (pt.count 1) (pt.count 2) y x == "<", ITERC.rngN hh (by walk_at "o"), by walk_at "vsc", by simp; walk_at "o", ?_, ?_⟩
      · intro C2 D2 c2 y hy
        have hyN : y < (pt.count 1) * (pt.count 2) := by simpa using hy
        walk_at "vs"
        refine CMP.ninL 1 hR (isI_hf _ _) ?_
        rw [any_inI]
        walk_at "vs"
        by_cases hy1 : inI y ((heapsF pt).getD ((t + 1) % szN xs) []) = true
        · rw [if_neg (by rw [hy1]; decide)]
          refine ⟨by rw [hy1]; rfl, ?_⟩
          rw [if_neg (by rw [hy1]; simp)]
          exact by walk_at "vback"
        have hy2 : inI y ((heapsF pt).getD ((t + 1) % szN xs) []) = false := by simpa using hy1
        rw [if_pos (by rw [hy2]; decide)]
        walk_at "vs"
        refine SUB.li y [] rfl (by rw [table_len hb]; walk_at "o") (by rw [table_len hb]; walk_at "o") ?_
        walk_at "vs"
        refine SUB.li x "" rfl (by rw [row_len hb (by walk_at "o")]; walk_at "o") (by rw [row_len hb (by walk_at "o")]; walk_at "o") ?_
        walk_at "vs"
        by_cases hr : (relAt (pt.count 1) (pt.count 2) y x == Str.ofString "<") = true
        · rw [if_pos (show (((tableF (pt.count 1) (pt.count 2)).getD y []).getD x (Str.ofString "") == Str.ofString "<") = true from hr)]
          walk_at "vs"
          refine ⟨by rw [hy2]; exact hr.symm, ?_⟩
          rw [if_pos (by rw [hy2]; exact hr)]
          walk_at "vs"
          exact ⟨rfl, by walk_at "vback"⟩
        · rw [if_neg (show ¬ (((tableF (pt.count 1) (pt.count 2)).getD y []).getD x (Str.ofString "") == Str.ofString "<") = true from hr)]
          have hr' : (relAt (pt.count 1) (pt.count 2) y x == Str.ofString "<") = false := by simpa using hr
          refine ⟨by rw [hy2]; exact hr'.symm, ?_⟩
          rw [if_neg (by rw [hy2]; exact hr)]
          exact by walk_at "vback"
      walk_at "vs"
      refine EV.list ?_
      walk_at "vss"
      have e3 : ((List.range ((pt.count 1) * (pt.count 2))).filter (fun y : Nat => !inI y ((heapsF pt).getD ((t + 1) % szN xs) []) && relAt (pt.count 1) (pt.count 2) y x == "<")).map nat = (((List.range ((pt.count 1) * (pt.count 2))).filter (fun y : Nat => !inI y ((heapsF pt).getD ((t + 1) % szN xs) []) && relAt (pt.count 1) (pt.count 2) y x == "<")).map (fun y : Nat => (y : Int))).map V.int := by rw [List.map_map]; rfl
      rw [e3]
      refine CMP.eqv 2 hR (veq_ints _ []) ?_
      walk_at "vs"
      rw [beq_nil, List.isEmpty_map]
      split
      · rename_i hq
        walk_at "vs"
        refine ⟨by rw [hin']; exact hq.symm, ?_⟩
        rw [if_pos (by rw [hin']; exact hq)]
        walk_at "vs"
        exact ⟨rfl, by walk_at "vback"⟩
      · rename_i hq
        have hq' : ((List.range ((pt.count 1) * (pt.count 2))).filter (fun y : Nat => !inI y ((heapsF pt).getD ((t + 1) % szN xs) []) && relAt (pt.count 1) (pt.count 2) y x == "<")).isEmpty = false := by simpa using hq
        refine ⟨by rw [hin']; exact hq'.symm, ?_⟩
        rw [if_neg (by rw [hin']; exact hq)]
        exact by walk_at "vback"
    refine EV.callB (by walk_at "vg") "sorted" (by walk_at "vbn") ?_
    walk_at "vs"
    refine SUB.li t [] rfl (by walk_at "o") (by walk_at "o") ?_
    walk_at "vs"
    refine CALL.sorted (by walk_at "o") (fun l' h1 h2 => ?_)
    rw [srt_eq h1 h2]
    have e4 : ((List.range ((pt.count 1) * (pt.count 2))).filter (fun x : Nat => !inI x ((heapsF pt).getD ((t + 1) % szN xs) []) && ((List.range ((pt.count 1) * (pt.count 2))).filter fun y : Nat => !inI y ((heapsF pt).getD ((t + 1) % szN xs) []) && relAt (pt.count 1) (pt.count 2) y x == "<").isEmpty)).map nat = (srt ((chainsF pt).getD t [])).map V.int := by
      unfold chk3 at hk3
      dsimp only at hk3
      rw [hsum, hpt] at hk3
      rw [← eq_of_beq hk3, List.filter_map, List.map_map]
      have e5 : ∀ x : Nat, (!inI x ((heapsF pt).getD ((t + 1) % szN xs) []) && ((List.range ((pt.count 1) * (pt.count 2))).filter fun y : Nat => !inI y ((heapsF pt).getD ((t + 1) % szN xs) []) && relAt (pt.count 1) (pt.count 2) y x == "<").isEmpty) = (!inI x ((heapsF pt).getD ((t + 1) % szN xs) []) && (((List.range ((pt.count 1) * (pt.count 2))).map fun x : Nat => (x : Int)).filter fun y => !inI y ((heapsF pt).getD ((t + 1) % szN xs) []) && relAt (pt.count 1) (pt.count 2) y.toNat (x : Int).toNat == "<").isEmpty) := fun x => by
        rw [List.filter_map, List.isEmpty_map]
        rfl
      rw [List.filter_congr (fun x _ => e5 x)]
      rfl
    rw [e4]
    refine CMP.nev 2 hR (veq_ints _ _) ?_
    rw [show (!(srt ((chainsF pt).getD t []) == srt ((chainsF pt).getD t []))) = false by simp]
    walk_at "vs"
    rw [if_neg (by decide)]
    walk_at "vs"
    exact ⟨_, _, rfl⟩
  · rintro σ1 ⟨w3, w4, rfl⟩
    exact h w3 w4
end

end
section
open PySem PySem.Spec PySem.Calls PyProof.Rows PySem.W PySem.SeqAt Builtin Builtin.Str
theorem subAt_one (x : Str) (c i : Nat) : subAt x ⟨#[c]⟩ i = true ↔ x.cps.toList[i]? = some c := by
  unfold subAt
  rw [beq_iff_eq]
  show x.cps.extract i (i + 1) = #[c] ↔ _
  rw [← Array.toList_inj, Array.toList_extract, List.extract_eq_take_drop]
  have := StrLaws.take1_drop (l := x.cps.toList) (c := c) (i := i)
  rw [beq_iff_eq] at this
  rw [← this, show i + 1 - i = 1 by omega]
theorem occ_count (x : Str) (c : Nat) : ∀ (k i : Nat) (st : Array Nat × Nat), i + k = x.length + 1 → st.2 ≤ i → st.1.size ≤ i →
    (forIn (List.range' i k) st (StrLaws.occBody x ⟨#[c]⟩ x.length (x.length + 1))).run.fst.size = st.1.size + (x.cps.toList.drop i).count c
  | 0, i, st, hi, h2, h3 => by
    have : x.cps.toList.drop i = [] := by rw [List.drop_eq_nil_iff]; show x.length ≤ i; omega
    rw [this]
    simp
  | k + 1, i, st, hi, h2, h3 => by
    have hxl : x.length = x.cps.toList.length := by simp [Str.length]
    rw [List.range'_succ, List.forIn_cons]
    unfold StrLaws.occBody
    by_cases hc : x.cps.toList[i]? = some c
    · have hin := (List.getElem?_eq_some_iff.mp hc).1
      have hic := (List.getElem?_eq_some_iff.mp hc).2
      rw [if_pos ⟨⟨⟨by omega, h2⟩, by show i + 1 ≤ _; omega⟩, (subAt_one x c i).mpr hc⟩]
      have ih := occ_count x c k (i + 1) (st.1.push i, i + 1) (by omega) (Nat.le_refl _) (by simp; omega)
      show (forIn (List.range' (i + 1) k) (st.1.push i, i + 1) (StrLaws.occBody x ⟨#[c]⟩ x.length (x.length + 1))).run.fst.size = _
      rw [ih, List.drop_eq_getElem_cons hin, List.count_cons, hic]
      simp
      omega
    · rw [if_neg (fun h => hc ((subAt_one x c i).mp h.2))]
      have ih := occ_count x c k (i + 1) (st.1, st.2) (by omega) (by show st.2 ≤ i + 1; omega) (by show st.1.size ≤ i + 1; omega)
      show (forIn (List.range' (i + 1) k) (st.1, st.2) (StrLaws.occBody x ⟨#[c]⟩ x.length (x.length + 1))).run.fst.size = _
      rw [ih]
      by_cases hin : i < x.cps.toList.length
      · rw [List.drop_eq_getElem_cons hin, List.count_cons]
        have : ¬ x.cps.toList[i] = c := fun e => hc (by rw [List.getElem?_eq_getElem hin, e])
        rw [if_neg (by simpa using this)]; rfl
      · rw [List.drop_eq_nil_of_le (by omega), List.drop_eq_nil_of_le (by omega)]
theorem occ_nl (x : Str) : (((occurrences x (Str.ofString "\n") 0 x.length (x.length + 1)).length : Nat) : Int) = nl x.cps.toList := by
  rw [show Str.ofString "\n" = ⟨#[10]⟩ by rfl, StrLaws.occ_eq, Array.length_toList]
  have := occ_count x 10 (x.length + 1) 0 (#[], 0) (by omega) (Nat.le_refl _) (Nat.le_refl _)
  rw [show x.length + 1 - 0 = x.length + 1 from rfl, this]
  simp [nl]
end
section
set_option compiler.extract_closed false
set_option maxHeartbeats 1000000


noncomputable def bksF (pt : List Int) : List Book := booksF (chainsF pt) (heapsF pt) (pt.count 1) (pt.count 2)
noncomputable def quadB (b : Book) : Int × Int × Int × Int := (b.a1, b.a2, b.a4, b.ls.sum)
noncomputable def quadE (q : Int × Int × Int × Int) : V := .tup [.int q.1, .int q.2.1, .int q.2.2.1, .int q.2.2.2]
theorem veq_quad (a b : Int × Int × Int × Int) : veq 2 (quadE a) (quadE b) = some (a == b) := by
  obtain ⟨a1, a2, a3, a4⟩ := a
  obtain ⟨b1, b2, b3, b4⟩ := b
  show some _ = some _
  congr 1
  show ((a1 == b1) && ((a2 == b2) && ((a3 == b3) && ((a4 == b4) && true))) && true) = (a1 == b1 && (a2 == b2 && (a3 == b3 && a4 == b4)))
  simp
noncomputable def dueF (pt : List Int) : List Int × List Int := putAll (((List.range (pt.count 2)).filter fun _ => decide (0 < pt.count 1)).map fun j : Nat => ((j : Int), ((pt.length * pt.count 1 : Nat) : Int))) ([], [])
noncomputable def quadW (pt : List Int) : Int × Int × Int × Int := ((pt.count 2 : Nat), ((pt.length * pt.count 2 : Nat) : Int), ((pt.length * (pt.length - 1) / 2 : Nat) : Int), ((pt.length * pt.count 2 : Nat) : Int))
structure Sums (pt : List Int) : Prop where
  bk : (bksF pt).map quadB = List.replicate (pt.count 1) (quadW pt)
  blen : (bksF pt).length ≤ 6
  t1 : (totalF (bksF pt)).a1 = ((pt.count 1 * pt.count 2 : Nat) : Int)
  t2 : (totalF (bksF pt)).a2 = ((pt.length * pt.count 1 * pt.count 2 : Nat) : Int)
  t3 : (totalF (bksF pt)).a3 = ((pt.length * pt.count 1 * pt.count 2 / 2 : Nat) : Int)
  t4 : (totalF (bksF pt)).a4 = ((pt.length * (pt.length - 1) / 2 * pt.count 1 : Nat) : Int)
  k1 : (totalF (bksF pt)).ks.length = (totalF (bksF pt)).ls.length
  k2 : (dueF pt).1.length = (dueF pt).2.length
  k3 : (totalF (bksF pt)).ks.length = (dueF pt).1.length
  at_ : ∀ p ∈ (totalF (bksF pt)).ks.zip (totalF (bksF pt)).ls, vat (dueF pt).1 (dueF pt).2 p.1 = some p.2
section
variable {X : Cx} {σ : St} {k : Nat} {P : V → St → Prop}
theorem law_19 (G : G3 X) (hA : Rm X.A (k + 9)) {pm cd doc dV kV : Value} {L fa : Addr} {xs : List Int} {m : List (Addr × Cell)} {Q : Fl → St → Prop} {e : Int} {w1 w2 : Option V} {a : LxA} {pt : List Int} (hpt : pt.length = szN xs) {w3 w4 : Option V} (hg : Good pt) (hc : Checks pt) (h : Q .next ⟨[(Str.ofString "text", some (V.str (txtF xs))), (Str.ofString "few", w1), (Str.ofString "ranks", w2), (Str.ofString "told", some (V.list ((wordsL xs ++ wordsL xs).map V.str))), (Str.ofString "rest", some (V.list ((wordsL xs ++ [Str.ofString "#", Str.ofString ""]).map V.str))), (Str.ofString "chains", some (V.list ((chainsF pt).map fun l => V.list (l.map V.int)))), (Str.ofString "books", some (V.list ((bksF pt).map bookV))), (Str.ofString "total", some (bookV (totalF (bksF pt)))), (Str.ofString "due", Option.none)], [(Str.ofString "script", some (V.list (xs.map V.int))), (Str.ofString "own", some (V.list (ownL.map V.int))), (Str.ofString "cells", some (V.list ((List.range 8).map fun i => nat (cellN xs i)))), (Str.ofString "size", some (nat (szN xs))), (Str.ofString "signs", some (V.list (ettK.map V.str))), (Str.ofString "drawn", some (V.list ((drawnL xs).map V.str))), (Str.ofString "words", some (V.list ((wordsL xs).map V.str))), (Str.ofString "numbers", some (V.list ((numsL xs).map V.int))), (Str.ofString "edge", some (V.int e)), (Str.ofString "lexer", some (V.ref a.L)), (Str.ofString "symbols", some (V.sdict (symF xs e).1 (symF xs e).2)), (Str.ofString "kinds", some (V.list ((pt ++ pt).map V.int))), (Str.ofString "wide", some (nat (pt.count 2))), (Str.ofString "tall", some (nat (pt.count 1))), (Str.ofString "table", some (V.list ((tableF (pt.count 1) (pt.count 2)).map fun r => V.list (r.map V.str)))), (Str.ofString "spots", some (V.rng 0 ((pt.count 1 * pt.count 2 : Nat) : Int))), (Str.ofString "heaps", some (V.list ((heapsF pt).map fun l => V.list (l.map V.int)))), (Str.ofString "t", w3), (Str.ofString "after", w4)], [], m⟩) : LS (X.callee (fdLaw pm cd doc dV kV) L fa) 19 ⟨[(Str.ofString "text", some (V.str (txtF xs))), (Str.ofString "few", w1), (Str.ofString "ranks", w2), (Str.ofString "told", some (V.list ((wordsL xs ++ wordsL xs).map V.str))), (Str.ofString "rest", some (V.list ((wordsL xs ++ [Str.ofString "#", Str.ofString ""]).map V.str))), (Str.ofString "chains", some (V.list ((chainsF pt).map fun l => V.list (l.map V.int)))), (Str.ofString "books", Option.none), (Str.ofString "total", Option.none), (Str.ofString "due", Option.none)], [(Str.ofString "script", some (V.list (xs.map V.int))), (Str.ofString "own", some (V.list (ownL.map V.int))), (Str.ofString "cells", some (V.list ((List.range 8).map fun i => nat (cellN xs i)))), (Str.ofString "size", some (nat (szN xs))), (Str.ofString "signs", some (V.list (ettK.map V.str))), (Str.ofString "drawn", some (V.list ((drawnL xs).map V.str))), (Str.ofString "words", some (V.list ((wordsL xs).map V.str))), (Str.ofString "numbers", some (V.list ((numsL xs).map V.int))), (Str.ofString "edge", some (V.int e)), (Str.ofString "lexer", some (V.ref a.L)), (Str.ofString "symbols", some (V.sdict (symF xs e).1 (symF xs e).2)), (Str.ofString "kinds", some (V.list ((pt ++ pt).map V.int))), (Str.ofString "wide", some (nat (pt.count 2))), (Str.ofString "tall", some (nat (pt.count 1))), (Str.ofString "table", some (V.list ((tableF (pt.count 1) (pt.count 2)).map fun r => V.list (r.map V.str)))), (Str.ofString "spots", some (V.rng 0 ((pt.count 1 * pt.count 2 : Nat) : Int))), (Str.ofString "heaps", some (V.list ((heapsF pt).map fun l => V.list (l.map V.int)))), (Str.ofString "t", w3), (Str.ofString "after", w4)], [], m⟩ Q := by
  refine ⟨?_⟩
  have hR : Rm (X.callee (fdLaw pm cd doc dV kV) L fa).A (k + 8) := hA.deeper
  have hh : (X.callee (fdLaw pm cd doc dV kV) L fa).A.handled = none := hR.handled
  have G' : G3 (X.callee (fdLaw pm cd doc dV kV) L fa) := G.callee
  have sl : sizeLine = 2 ^ 24 := by decide
  have hn := sz_of xs
  have hn6 : szN xs ≤ 6 := sz_le xs
  have hsum := hg.sum
  have hN := prod_le (T := pt.count 1) (W := pt.count 2) (by omega)
  have wpos : ∀ {c : List Int}, (∀ y ∈ c, 0 ≤ y ∧ y < (((pt.count 1) * (pt.count 2) : Nat) : Int)) → c ≠ [] → 0 < (pt.count 2) := fun {c} hc hne => by
    rcases c with _ | ⟨y, c⟩
    · exact absurd rfl hne
    · have := hc y List.mem_cons_self
      refine Nat.pos_of_ne_zero fun e0 => ?_
      rw [e0, Nat.mul_zero] at this; omega
  refine ES.asg ?_ (by walk_at "vside") (by walk_at "vside") (by walk_at "vside")
  refine EV.callG (by walk_at "vg") 166 (by walk_at "vgn") (by decide) ?_
  walk_at "vs"
  refine sp_166 (k := k + 5) G' hR (by omega) (by rw [chains_len]; omega) (by rw [heaps_len]; omega) (fun c hc' => ⟨by have := hc.len c hc'; omega, wpos (hg.ch c hc')⟩) (fun c hc' => ⟨by have := (heaps_mem hc').1; omega, wpos (heaps_mem hc').2⟩) ?_
  walk_at "vs"
  exact h
theorem law_20 (G : G3 X) (hA : Rm X.A (k + 9)) {pm cd doc dV kV : Value} {L fa : Addr} {xs : List Int} {m : List (Addr × Cell)} {Q : Fl → St → Prop} {e : Int} {w1 w2 : Option V} {a : LxA} {pt : List Int} (hpt : pt.length = szN xs) {w3 w4 : Option V} (hg : Good pt) (hq : Sums pt) (h : Q .next ⟨[(Str.ofString "text", some (V.str (txtF xs))), (Str.ofString "few", w1), (Str.ofString "ranks", w2), (Str.ofString "told", some (V.list ((wordsL xs ++ wordsL xs).map V.str))), (Str.ofString "rest", some (V.list ((wordsL xs ++ [Str.ofString "#", Str.ofString ""]).map V.str))), (Str.ofString "chains", some (V.list ((chainsF pt).map fun l => V.list (l.map V.int)))), (Str.ofString "books", some (V.list ((bksF pt).map bookV))), (Str.ofString "total", some (bookV (totalF (bksF pt)))), (Str.ofString "due", Option.none)], [(Str.ofString "script", some (V.list (xs.map V.int))), (Str.ofString "own", some (V.list (ownL.map V.int))), (Str.ofString "cells", some (V.list ((List.range 8).map fun i => nat (cellN xs i)))), (Str.ofString "size", some (nat (szN xs))), (Str.ofString "signs", some (V.list (ettK.map V.str))), (Str.ofString "drawn", some (V.list ((drawnL xs).map V.str))), (Str.ofString "words", some (V.list ((wordsL xs).map V.str))), (Str.ofString "numbers", some (V.list ((numsL xs).map V.int))), (Str.ofString "edge", some (V.int e)), (Str.ofString "lexer", some (V.ref a.L)), (Str.ofString "symbols", some (V.sdict (symF xs e).1 (symF xs e).2)), (Str.ofString "kinds", some (V.list ((pt ++ pt).map V.int))), (Str.ofString "wide", some (nat (pt.count 2))), (Str.ofString "tall", some (nat (pt.count 1))), (Str.ofString "table", some (V.list ((tableF (pt.count 1) (pt.count 2)).map fun r => V.list (r.map V.str)))), (Str.ofString "spots", some (V.rng 0 ((pt.count 1 * pt.count 2 : Nat) : Int))), (Str.ofString "heaps", some (V.list ((heapsF pt).map fun l => V.list (l.map V.int)))), (Str.ofString "t", w3), (Str.ofString "after", w4)], [], m⟩) : LS (X.callee (fdLaw pm cd doc dV kV) L fa) 20 ⟨[(Str.ofString "text", some (V.str (txtF xs))), (Str.ofString "few", w1), (Str.ofString "ranks", w2), (Str.ofString "told", some (V.list ((wordsL xs ++ wordsL xs).map V.str))), (Str.ofString "rest", some (V.list ((wordsL xs ++ [Str.ofString "#", Str.ofString ""]).map V.str))), (Str.ofString "chains", some (V.list ((chainsF pt).map fun l => V.list (l.map V.int)))), (Str.ofString "books", some (V.list ((bksF pt).map bookV))), (Str.ofString "total", some (bookV (totalF (bksF pt)))), (Str.ofString "due", Option.none)], [(Str.ofString "script", some (V.list (xs.map V.int))), (Str.ofString "own", some (V.list (ownL.map V.int))), (Str.ofString "cells", some (V.list ((List.range 8).map fun i => nat (cellN xs i)))), (Str.ofString "size", some (nat (szN xs))), (Str.ofString "signs", some (V.list (ettK.map V.str))), (Str.ofString "drawn", some (V.list ((drawnL xs).map V.str))), (Str.ofString "words", some (V.list ((wordsL xs).map V.str))), (Str.ofString "numbers", some (V.list ((numsL xs).map V.int))), (Str.ofString "edge", some (V.int e)), (Str.ofString "lexer", some (V.ref a.L)), (Str.ofString "symbols", some (V.sdict (symF xs e).1 (symF xs e).2)), (Str.ofString "kinds", some (V.list ((pt ++ pt).map V.int))), (Str.ofString "wide", some (nat (pt.count 2))), (Str.ofString "tall", some (nat (pt.count 1))), (Str.ofString "table", some (V.list ((tableF (pt.count 1) (pt.count 2)).map fun r => V.list (r.map V.str)))), (Str.ofString "spots", some (V.rng 0 ((pt.count 1 * pt.count 2 : Nat) : Int))), (Str.ofString "heaps", some (V.list ((heapsF pt).map fun l => V.list (l.map V.int)))), (Str.ofString "t", w3), (Str.ofString "after", w4)], [], m⟩ Q := by
  refine ⟨?_⟩
  have hR : Rm (X.callee (fdLaw pm cd doc dV kV) L fa).A (k + 8) := hA.deeper
  have hh : (X.callee (fdLaw pm cd doc dV kV) L fa).A.handled = none := hR.handled
  have G' : G3 (X.callee (fdLaw pm cd doc dV kV) L fa) := G.callee
  have sl : sizeLine = 2 ^ 24 := by decide
  have hn := sz_of xs
  have hn6 : szN xs ≤ 6 := sz_le xs
  have hsum := hg.sum
  have hbl := hq.blen
  refine ES.ite ?_
  refine ET.cmp ?_
  refine EV.lcm (α := Book) ?_ (by kernel_rfl) (by kernel_rfl) rfl (by intro _; rfl)
  walk_at "vs"
  refine ⟨_, _, _, bksF pt, bookV, fun b => quadE (quadB b), ITERC.list hh, by walk_at "vsc", by omega, ?_, ?_⟩
  · intro C D c b hb
    walk_at "vs"
    refine SUB.ti 0 rfl rfl (Nat.le_of_ble_eq_true rfl) ?_
    walk_at "vs"
    refine SUB.ti 1 rfl rfl (Nat.le_of_ble_eq_true rfl) ?_
    walk_at "vs"
    refine SUB.ti 3 rfl rfl (Nat.le_of_ble_eq_true rfl) ?_
    walk_at "vs"
    refine EV.callG (by walk_at "vg") 105 (by walk_at "vgn") (by decide) ?_
    walk_at "vs"
    refine SUB.ti 4 rfl rfl (Nat.le_of_ble_eq_true rfl) ?_
    walk_at "vs"
    refine sp_105 (k := k + 7) (G3.comp G') hR ?_
    walk_at "vss"
    exact ⟨rfl, by walk_at "vback"⟩
  rw [show (bksF pt).map (fun b => quadE (quadB b)) = ((bksF pt).map quadB).map quadE by rw [List.map_map]; rfl, hq.bk]
  walk_at "v"
  refine EV.list ?_
  walk_at "vs"
  refine BIN.mul ?_ (by omega)
  walk_at "vs"
  refine BIN.mul ?_ (by omega)
  walk_at "vs"
  refine BIN.div ?_ (by decide)
  walk_at "vs"
  refine BIN.mul ?_ (by omega)
  walk_at "vss"
  have e1 : ((szN xs : Nat) : Int) * ((szN xs : Nat) - 1) = ((szN xs * (szN xs - 1) : Nat) : Int) := by
    rw [Int.natCast_mul, Int.natCast_sub (by omega)]; rfl
  have e2 : V.tup [nat (pt.count 2), V.int ((szN xs : Nat) * ((pt.count 2) : Nat)), V.int ((((szN xs : Nat) : Int) * ((szN xs : Nat) - 1)).fdiv 2), V.int ((szN xs : Nat) * ((pt.count 2) : Nat))] = quadE (quadW pt) := by
    unfold quadE quadW
    rw [e1, show (2 : Int) = ((2 : Nat) : Int) from rfl, fdiv_nat, hpt]
    simp only [Int.natCast_mul]
  rw [e2]
  refine BIN.mulL ?_ (by simp) (by simp; omega) (by omega)
  have e3 : (List.replicate ((((pt.count 1) : Nat) : Int)).toNat [quadE (quadW pt)]).flatten = (List.replicate (pt.count 1) (quadW pt)).map quadE := by
    rw [Int.toNat_natCast, List.map_replicate]
    generalize (pt.count 1) = n
    induction n with
    | zero => rfl
    | succ n ih => rw [List.replicate_succ, List.flatten_cons, ih, List.replicate_succ]; rfl
  rw [e3]
  refine CMP.nev 3 hR (veq_map quadE 2 veq_quad _ _) ?_
  rw [show (!(List.replicate (pt.count 1) (quadW pt) == List.replicate (pt.count 1) (quadW pt))) = false by simp]
  walk_at "vs"
  rw [if_neg (by decide)]
  walk_at "vs"
  exact h
theorem law_21 (G : G3 X) (hA : Rm X.A (k + 9)) {pm cd doc dV kV : Value} {L fa : Addr} {xs : List Int} {m : List (Addr × Cell)} {Q : Fl → St → Prop} {e : Int} {w1 w2 : Option V} {a : LxA} {pt : List Int} (hpt : pt.length = szN xs) {w3 w4 : Option V} (hg : Good pt) (h : Q .next ⟨[(Str.ofString "text", some (V.str (txtF xs))), (Str.ofString "few", w1), (Str.ofString "ranks", w2), (Str.ofString "told", some (V.list ((wordsL xs ++ wordsL xs).map V.str))), (Str.ofString "rest", some (V.list ((wordsL xs ++ [Str.ofString "#", Str.ofString ""]).map V.str))), (Str.ofString "chains", some (V.list ((chainsF pt).map fun l => V.list (l.map V.int)))), (Str.ofString "books", some (V.list ((bksF pt).map bookV))), (Str.ofString "total", some (bookV (totalF (bksF pt)))), (Str.ofString "due", some (V.idict (dueF pt).1 ((dueF pt).2.map V.int)))], [(Str.ofString "script", some (V.list (xs.map V.int))), (Str.ofString "own", some (V.list (ownL.map V.int))), (Str.ofString "cells", some (V.list ((List.range 8).map fun i => nat (cellN xs i)))), (Str.ofString "size", some (nat (szN xs))), (Str.ofString "signs", some (V.list (ettK.map V.str))), (Str.ofString "drawn", some (V.list ((drawnL xs).map V.str))), (Str.ofString "words", some (V.list ((wordsL xs).map V.str))), (Str.ofString "numbers", some (V.list ((numsL xs).map V.int))), (Str.ofString "edge", some (V.int e)), (Str.ofString "lexer", some (V.ref a.L)), (Str.ofString "symbols", some (V.sdict (symF xs e).1 (symF xs e).2)), (Str.ofString "kinds", some (V.list ((pt ++ pt).map V.int))), (Str.ofString "wide", some (nat (pt.count 2))), (Str.ofString "tall", some (nat (pt.count 1))), (Str.ofString "table", some (V.list ((tableF (pt.count 1) (pt.count 2)).map fun r => V.list (r.map V.str)))), (Str.ofString "spots", some (V.rng 0 ((pt.count 1 * pt.count 2 : Nat) : Int))), (Str.ofString "heaps", some (V.list ((heapsF pt).map fun l => V.list (l.map V.int)))), (Str.ofString "t", w3), (Str.ofString "after", w4)], [], m⟩) : LS (X.callee (fdLaw pm cd doc dV kV) L fa) 21 ⟨[(Str.ofString "text", some (V.str (txtF xs))), (Str.ofString "few", w1), (Str.ofString "ranks", w2), (Str.ofString "told", some (V.list ((wordsL xs ++ wordsL xs).map V.str))), (Str.ofString "rest", some (V.list ((wordsL xs ++ [Str.ofString "#", Str.ofString ""]).map V.str))), (Str.ofString "chains", some (V.list ((chainsF pt).map fun l => V.list (l.map V.int)))), (Str.ofString "books", some (V.list ((bksF pt).map bookV))), (Str.ofString "total", some (bookV (totalF (bksF pt)))), (Str.ofString "due", Option.none)], [(Str.ofString "script", some (V.list (xs.map V.int))), (Str.ofString "own", some (V.list (ownL.map V.int))), (Str.ofString "cells", some (V.list ((List.range 8).map fun i => nat (cellN xs i)))), (Str.ofString "size", some (nat (szN xs))), (Str.ofString "signs", some (V.list (ettK.map V.str))), (Str.ofString "drawn", some (V.list ((drawnL xs).map V.str))), (Str.ofString "words", some (V.list ((wordsL xs).map V.str))), (Str.ofString "numbers", some (V.list ((numsL xs).map V.int))), (Str.ofString "edge", some (V.int e)), (Str.ofString "lexer", some (V.ref a.L)), (Str.ofString "symbols", some (V.sdict (symF xs e).1 (symF xs e).2)), (Str.ofString "kinds", some (V.list ((pt ++ pt).map V.int))), (Str.ofString "wide", some (nat (pt.count 2))), (Str.ofString "tall", some (nat (pt.count 1))), (Str.ofString "table", some (V.list ((tableF (pt.count 1) (pt.count 2)).map fun r => V.list (r.map V.str)))), (Str.ofString "spots", some (V.rng 0 ((pt.count 1 * pt.count 2 : Nat) : Int))), (Str.ofString "heaps", some (V.list ((heapsF pt).map fun l => V.list (l.map V.int)))), (Str.ofString "t", w3), (Str.ofString "after", w4)], [], m⟩ Q := by
  refine ⟨?_⟩
  have hR : Rm (X.callee (fdLaw pm cd doc dV kV) L fa).A (k + 8) := hA.deeper
  have hh : (X.callee (fdLaw pm cd doc dV kV) L fa).A.handled = none := hR.handled
  have G' : G3 (X.callee (fdLaw pm cd doc dV kV) L fa) := G.callee
  have sl : sizeLine = 2 ^ 24 := by decide
  have hn := sz_of xs
  have hn6 : szN xs ≤ 6 := sz_le xs
  have hsum := hg.sum
  refine ES.asgDC ?_ (by walk_at "vside") (by walk_at "vside")
  refine CVG.dci (α := Nat) ?_ (by kernel_rfl) (by kernel_rfl) rfl (by intro _; rfl)
  refine EV.callT (by walk_at "vg") "range" (by walk_at "vbn") ?_
  walk_at "vs"
  refine CALL.range ?_
  refine ⟨_, _, _, List.range (pt.count 2), nat, fun j => ((j : Int), nat (pt.length * (pt.count 1))), fun _ => decide (0 < (pt.count 1)), ITERC.rngN hh (by omega), by walk_at "vsc", by simp; omega, ?_, ?_⟩
  · intro C D c j hj
    walk_at "vs"
    have e1 : decide ((0 : Int) < (((pt.count 1) : Nat) : Int)) = decide (0 < (pt.count 1)) := by simp
    rw [e1]
    refine ⟨rfl, ?_⟩
    split
    · walk_at "vs"
      refine ⟨rfl, ?_⟩
      walk_at "vs"
      refine BIN.mul ?_ (by omega)
      exact ⟨by rw [hpt]; simp, by walk_at "vback"⟩
    · exact by walk_at "vback"
  have e2 : putAll (((List.range (pt.count 2)).filter fun _ => decide (0 < (pt.count 1))).map fun j : Nat => ((j : Int), nat (pt.length * (pt.count 1)))) ([], []) = ((dueF pt).1, (dueF pt).2.map V.int) := by
    have := putAll_map V.int (((List.range (pt.count 2)).filter fun _ => decide (0 < (pt.count 1))).map fun j : Nat => ((j : Int), ((pt.length * (pt.count 1) : Nat) : Int))) [] []
    rw [List.map_map] at this
    exact this
  rw [e2]
  walk_at "vs"
  exact h
theorem law_22 (G : G3 X) (hA : Rm X.A (k + 9)) {pm cd doc dV kV : Value} {L fa : Addr} {xs : List Int} {m : List (Addr × Cell)} {Q : Fl → St → Prop} {e : Int} {w1 w2 : Option V} {a : LxA} {pt : List Int} (hpt : pt.length = szN xs) {w3 w4 : Option V} (hg : Good pt) (hq : Sums pt) (h : Q .next ⟨[(Str.ofString "text", some (V.str (txtF xs))), (Str.ofString "few", w1), (Str.ofString "ranks", w2), (Str.ofString "told", some (V.list ((wordsL xs ++ wordsL xs).map V.str))), (Str.ofString "rest", some (V.list ((wordsL xs ++ [Str.ofString "#", Str.ofString ""]).map V.str))), (Str.ofString "chains", some (V.list ((chainsF pt).map fun l => V.list (l.map V.int)))), (Str.ofString "books", some (V.list ((bksF pt).map bookV))), (Str.ofString "total", some (bookV (totalF (bksF pt)))), (Str.ofString "due", some (V.idict (dueF pt).1 ((dueF pt).2.map V.int)))], [(Str.ofString "script", some (V.list (xs.map V.int))), (Str.ofString "own", some (V.list (ownL.map V.int))), (Str.ofString "cells", some (V.list ((List.range 8).map fun i => nat (cellN xs i)))), (Str.ofString "size", some (nat (szN xs))), (Str.ofString "signs", some (V.list (ettK.map V.str))), (Str.ofString "drawn", some (V.list ((drawnL xs).map V.str))), (Str.ofString "words", some (V.list ((wordsL xs).map V.str))), (Str.ofString "numbers", some (V.list ((numsL xs).map V.int))), (Str.ofString "edge", some (V.int e)), (Str.ofString "lexer", some (V.ref a.L)), (Str.ofString "symbols", some (V.sdict (symF xs e).1 (symF xs e).2)), (Str.ofString "kinds", some (V.list ((pt ++ pt).map V.int))), (Str.ofString "wide", some (nat (pt.count 2))), (Str.ofString "tall", some (nat (pt.count 1))), (Str.ofString "table", some (V.list ((tableF (pt.count 1) (pt.count 2)).map fun r => V.list (r.map V.str)))), (Str.ofString "spots", some (V.rng 0 ((pt.count 1 * pt.count 2 : Nat) : Int))), (Str.ofString "heaps", some (V.list ((heapsF pt).map fun l => V.list (l.map V.int)))), (Str.ofString "t", w3), (Str.ofString "after", w4)], [], m⟩) : LS (X.callee (fdLaw pm cd doc dV kV) L fa) 22 ⟨[(Str.ofString "text", some (V.str (txtF xs))), (Str.ofString "few", w1), (Str.ofString "ranks", w2), (Str.ofString "told", some (V.list ((wordsL xs ++ wordsL xs).map V.str))), (Str.ofString "rest", some (V.list ((wordsL xs ++ [Str.ofString "#", Str.ofString ""]).map V.str))), (Str.ofString "chains", some (V.list ((chainsF pt).map fun l => V.list (l.map V.int)))), (Str.ofString "books", some (V.list ((bksF pt).map bookV))), (Str.ofString "total", some (bookV (totalF (bksF pt)))), (Str.ofString "due", some (V.idict (dueF pt).1 ((dueF pt).2.map V.int)))], [(Str.ofString "script", some (V.list (xs.map V.int))), (Str.ofString "own", some (V.list (ownL.map V.int))), (Str.ofString "cells", some (V.list ((List.range 8).map fun i => nat (cellN xs i)))), (Str.ofString "size", some (nat (szN xs))), (Str.ofString "signs", some (V.list (ettK.map V.str))), (Str.ofString "drawn", some (V.list ((drawnL xs).map V.str))), (Str.ofString "words", some (V.list ((wordsL xs).map V.str))), (Str.ofString "numbers", some (V.list ((numsL xs).map V.int))), (Str.ofString "edge", some (V.int e)), (Str.ofString "lexer", some (V.ref a.L)), (Str.ofString "symbols", some (V.sdict (symF xs e).1 (symF xs e).2)), (Str.ofString "kinds", some (V.list ((pt ++ pt).map V.int))), (Str.ofString "wide", some (nat (pt.count 2))), (Str.ofString "tall", some (nat (pt.count 1))), (Str.ofString "table", some (V.list ((tableF (pt.count 1) (pt.count 2)).map fun r => V.list (r.map V.str)))), (Str.ofString "spots", some (V.rng 0 ((pt.count 1 * pt.count 2 : Nat) : Int))), (Str.ofString "heaps", some (V.list ((heapsF pt).map fun l => V.list (l.map V.int)))), (Str.ofString "t", w3), (Str.ofString "after", w4)], [], m⟩ Q := by
  refine ⟨?_⟩
  have hR : Rm (X.callee (fdLaw pm cd doc dV kV) L fa).A (k + 8) := hA.deeper
  have hh : (X.callee (fdLaw pm cd doc dV kV) L fa).A.handled = none := hR.handled
  have G' : G3 (X.callee (fdLaw pm cd doc dV kV) L fa) := G.callee
  have sl : sizeLine = 2 ^ 24 := by decide
  have hn := sz_of xs
  have hn6 : szN xs ≤ 6 := sz_le xs
  have hsum := hg.sum
  refine ES.ite ?_
  walk_at "vs"
  refine BIN.mul ?_ (by omega)
  walk_at "vs"
  refine BIN.mul ?_ (by omega)
  walk_at "vs"
  rw [← Int.natCast_mul]
  have hnT : szN xs * (pt.count 1) ≤ 36 := Nat.mul_le_mul (n₁ := szN xs) (n₂ := 6) (m₂ := 6) (by omega) (by omega)
  refine BIN.mul ?_ (by omega)
  walk_at "vs"
  refine BIN.mul ?_ (by omega)
  walk_at "vs"
  rw [← Int.natCast_mul]
  refine BIN.mul ?_ (by omega)
  walk_at "vs"
  refine BIN.div ?_ (by decide)
  walk_at "vs"
  refine BIN.mul ?_ (by omega)
  walk_at "vs"
  refine BIN.div ?_ (by decide)
  have e1 : ((szN xs : Nat) : Int) * ((szN xs : Nat) - 1) = ((szN xs * (szN xs - 1) : Nat) : Int) := by
    rw [Int.natCast_mul, Int.natCast_sub (by omega)]; rfl
  have hnn : szN xs * (szN xs - 1) ≤ 36 := Nat.mul_le_mul (n₁ := szN xs) (n₂ := 6) (m₂ := 6) (by omega) (by omega)
  have f2 : ∀ q : Nat, ((q : Nat) : Int).fdiv 2 = ((q / 2 : Nat) : Int) := fun q => fdiv_nat q 2
  rw [e1, f2]
  walk_at "vs"
  refine BIN.mul ?_ (by omega)
  walk_at "vss"
  have e2 : V.tup [V.int ((((pt.count 1) : Nat) : Int) * ((pt.count 2) : Nat)), V.int (((szN xs * (pt.count 1) : Nat) : Int) * ((pt.count 2) : Nat)), V.int ((((szN xs * (pt.count 1) : Nat) : Int) * ((pt.count 2) : Nat)).fdiv 2), V.int (((szN xs * (szN xs - 1) / 2 : Nat) : Int) * ((pt.count 1) : Nat)), V.idict (dueF pt).1 ((dueF pt).2.map V.int)]
      = V.tup ([(totalF (bksF pt)).a1, (totalF (bksF pt)).a2, (totalF (bksF pt)).a3, (totalF (bksF pt)).a4].map V.int ++ [V.idict (dueF pt).1 ((dueF pt).2.map V.int)]) := by
    rw [hq.t1, hq.t2, hq.t3, hq.t4, ← Int.natCast_mul, ← Int.natCast_mul, ← Int.natCast_mul, f2, hpt]
    rfl
  rw [e2]
  refine CMP.neD (ns := [(totalF (bksF pt)).a1, (totalF (bksF pt)).a2, (totalF (bksF pt)).a3, (totalF (bksF pt)).a4]) (ks := (totalF (bksF pt)).ks) (ls := (totalF (bksF pt)).ls) hR hq.k1 hq.k2 hq.k3 hq.at_ ?_
  walk_at "vs"
  rw [if_neg (by decide)]
  walk_at "vs"
  exact h
theorem law_23 (G : G3 X) (hA : Rm X.A (k + 9)) {pm cd doc dV kV : Value} {L fa : Addr} {xs : List Int} {m : List (Addr × Cell)} {Q : Fl → St → Prop} {e : Int} {w1 w2 : Option V} {a : LxA} {pt : List Int} (hpt : pt.length = szN xs) {w3 w4 : Option V} {tb : Array Value} {mr : List (Addr × Cell)} (hend : restT (txtF xs).cps.toList (szN xs + 2) = []) (h : Q (.ret (.bool true)) ⟨[(Str.ofString "text", some (V.str (txtF xs))), (Str.ofString "few", w1), (Str.ofString "ranks", w2), (Str.ofString "told", some (V.list ((wordsL xs ++ wordsL xs).map V.str))), (Str.ofString "rest", some (V.list ((wordsL xs ++ [Str.ofString "#", Str.ofString ""]).map V.str))), (Str.ofString "chains", some (V.list ((chainsF pt).map fun l => V.list (l.map V.int)))), (Str.ofString "books", some (V.list ((bksF pt).map bookV))), (Str.ofString "total", some (bookV (totalF (bksF pt)))), (Str.ofString "due", some (V.idict (dueF pt).1 ((dueF pt).2.map V.int)))], [(Str.ofString "script", some (V.list (xs.map V.int))), (Str.ofString "own", some (V.list (ownL.map V.int))), (Str.ofString "cells", some (V.list ((List.range 8).map fun i => nat (cellN xs i)))), (Str.ofString "size", some (nat (szN xs))), (Str.ofString "signs", some (V.list (ettK.map V.str))), (Str.ofString "drawn", some (V.list ((drawnL xs).map V.str))), (Str.ofString "words", some (V.list ((wordsL xs).map V.str))), (Str.ofString "numbers", some (V.list ((numsL xs).map V.int))), (Str.ofString "edge", some (V.int e)), (Str.ofString "lexer", some (V.ref a.L)), (Str.ofString "symbols", some (V.sdict (symF xs e).1 (symF xs e).2)), (Str.ofString "kinds", some (V.list ((pt ++ pt).map V.int))), (Str.ofString "wide", some (nat (pt.count 2))), (Str.ofString "tall", some (nat (pt.count 1))), (Str.ofString "table", some (V.list ((tableF (pt.count 1) (pt.count 2)).map fun r => V.list (r.map V.str)))), (Str.ofString "spots", some (V.rng 0 ((pt.count 1 * pt.count 2 : Nat) : Int))), (Str.ofString "heaps", some (V.list ((heapsF pt).map fun l => V.list (l.map V.int)))), (Str.ofString "t", w3), (Str.ofString "after", w4)], [], [(136, Cell.raw (· = tabObj tb))] ++ lexM (qL X.w.params) a (1 + nl (txtF xs).cps.toList - nl (restT (txtF xs).cps.toList (szN xs + 2))) (restT (txtF xs).cps.toList (szN xs + 2)) [] ++ []⟩) : LS (X.callee (fdLaw pm cd doc dV kV) L fa) 23 ⟨[(Str.ofString "text", some (V.str (txtF xs))), (Str.ofString "few", w1), (Str.ofString "ranks", w2), (Str.ofString "told", some (V.list ((wordsL xs ++ wordsL xs).map V.str))), (Str.ofString "rest", some (V.list ((wordsL xs ++ [Str.ofString "#", Str.ofString ""]).map V.str))), (Str.ofString "chains", some (V.list ((chainsF pt).map fun l => V.list (l.map V.int)))), (Str.ofString "books", some (V.list ((bksF pt).map bookV))), (Str.ofString "total", some (bookV (totalF (bksF pt)))), (Str.ofString "due", some (V.idict (dueF pt).1 ((dueF pt).2.map V.int)))], [(Str.ofString "script", some (V.list (xs.map V.int))), (Str.ofString "own", some (V.list (ownL.map V.int))), (Str.ofString "cells", some (V.list ((List.range 8).map fun i => nat (cellN xs i)))), (Str.ofString "size", some (nat (szN xs))), (Str.ofString "signs", some (V.list (ettK.map V.str))), (Str.ofString "drawn", some (V.list ((drawnL xs).map V.str))), (Str.ofString "words", some (V.list ((wordsL xs).map V.str))), (Str.ofString "numbers", some (V.list ((numsL xs).map V.int))), (Str.ofString "edge", some (V.int e)), (Str.ofString "lexer", some (V.ref a.L)), (Str.ofString "symbols", some (V.sdict (symF xs e).1 (symF xs e).2)), (Str.ofString "kinds", some (V.list ((pt ++ pt).map V.int))), (Str.ofString "wide", some (nat (pt.count 2))), (Str.ofString "tall", some (nat (pt.count 1))), (Str.ofString "table", some (V.list ((tableF (pt.count 1) (pt.count 2)).map fun r => V.list (r.map V.str)))), (Str.ofString "spots", some (V.rng 0 ((pt.count 1 * pt.count 2 : Nat) : Int))), (Str.ofString "heaps", some (V.list ((heapsF pt).map fun l => V.list (l.map V.int)))), (Str.ofString "t", w3), (Str.ofString "after", w4)], [], [(136, Cell.raw (· = tabObj tb))] ++ lexM (qL X.w.params) a (1 + nl (txtF xs).cps.toList - nl (restT (txtF xs).cps.toList (szN xs + 2))) (restT (txtF xs).cps.toList (szN xs + 2)) [] ++ []⟩ Q := by
  refine ⟨?_⟩
  have hR : Rm (X.callee (fdLaw pm cd doc dV kV) L fa).A (k + 8) := hA.deeper
  have hh : (X.callee (fdLaw pm cd doc dV kV) L fa).A.handled = none := hR.handled
  have G' : G3 (X.callee (fdLaw pm cd doc dV kV) L fa) := G.callee
  have sl : sizeLine = 2 ^ 24 := by decide
  generalize hT : (txtF xs).cps.toList = T at *
  refine ES.ret ?_
  walk_at "v"
  refine EV.attrI 52 51 _ (cls52 G') (by kernel_rfl) (by kernel_rfl) (by rw [typeLookup_type, builtinLookup_eq_fast]; kernel_rfl) ?_
  walk_at "vs"
  refine ⟨a.L, a.dx, nsL a _, .int _, rfl, by walk_at "vm", by walk_at "vm", by walk_at "vm", (fun Z v hv => by obtain ⟨t, rfl⟩ := hv; rfl), ?_⟩
  walk_at "vs"
  refine EV.meth "str" "str.count" F.plainAttrs_str F.slot_str_count F.type_str_count ?_
  walk_at "vs"
  refine ⟨TypeV.str, ?_⟩
  walk_at "vs"
  refine CALL.scount ?_
  rw [occ_nl, hT]
  walk_at "vs"
  rw [hend, show nl [] = 0 from rfl, Int.sub_zero] at h
  rw [hend, show nl [] = 0 from rfl, Int.sub_zero, beq_self_eq_true]
  exact h
end

end
section
open PySem PySem.Spec PySem.Calls PyProof.Rows PySem.W PySem.SeqAt Builtin Builtin.Str
noncomputable abbrev cpl (s : Str) : List Nat := s.cps.toList
theorem cpl_add (a b : Str) : cpl (a ++ b) = cpl a ++ cpl b := by
  show (a.cps ++ b.cps).toList = _
  simp
theorem cpl_glued : ∀ (l : List Str), cpl (glued (Str.ofString "") l) = l.flatMap cpl := by
  intro l
  have key : ∀ (l : List Str) (acc : Array Nat), (l.foldl (fun acc p => acc ++ (Str.ofString "").cps ++ p.cps) acc).toList = acc.toList ++ l.flatMap cpl := by
    intro l
    induction l with
    | nil => intro acc; simp
    | cons a l ih =>
      intro acc
      rw [List.foldl_cons, ih, List.flatMap_cons]
      have : (Str.ofString "").cps = #[] := by rfl
      simp [this]
  cases l with
  | nil => rfl
  | cons a l =>
    show (l.foldl (fun acc p => acc ++ (Str.ofString "").cps ++ p.cps) a.cps).toList = _
    rw [key]; rfl
noncomputable def sgL (q full : Bool) (n : Nat) : List Nat := cpl (signF q full n)
theorem sg_cases (q full : Bool) (n : Nat) : sgL q full n = [92, n] ∨ (sgL q full n = [n] ∧ n ∉ cpl (needF q)) := by
  unfold sgL signF
  split
  · left; rw [cpl_add]; rfl
  · rename_i h
    right
    refine ⟨rfl, fun hm => h ?_⟩
    simp only [Bool.or_eq_true, decide_eq_true_eq]
    exact .inr hm
noncomputable def encL (sty : Nat) (w : List Nat) : List Nat := cpl (markF (sty % 2 == 1)) ++ w.flatMap (sgL (sty % 2 == 1) (sty / 2 % 2 == 1)) ++ cpl (markF (sty % 2 == 1)) ++ cpl ((gapsF (sty % 2 == 1)).getD (sty / 4) (Str.ofString ""))
theorem cpl_enc (sty : Nat) (w : Str) : cpl (encF sty w) = encL sty (cpl w) := by
  unfold encF encL
  rw [cpl_add, cpl_add, cpl_add]
  have : cpl (Txt.join (Str.ofString "") (w.cps.toList.map (signF (sty % 2 == 1) (sty / 2 % 2 == 1)))) = (cpl w).flatMap (sgL (sty % 2 == 1) (sty / 2 % 2 == 1)) := by
    show cpl (glued (Str.ofString "") _) = _
    rw [cpl_glued, List.flatMap_map]; rfl
  rw [this]
theorem cpl_text (ws : List Str) (c : Nat) : cpl (textF ws c) = (List.range ws.length).flatMap fun i => encL (styleF c i) (cpl (ws.getD i (Str.ofString ""))) := by
  have key : ∀ (l : List Nat) (t : Str), cpl (l.foldl (fun t i => t ++ encF (styleF c i) (ws.getD i (Str.ofString ""))) t) = cpl t ++ l.flatMap fun i => encL (styleF c i) (cpl (ws.getD i (Str.ofString ""))) := by
    intro l
    induction l with
    | nil => intro t; simp
    | cons a l ih => intro t; rw [List.foldl_cons, ih, cpl_add, cpl_enc, List.flatMap_cons, List.append_assoc]
  unfold textF
  rw [key]; rfl
theorem cpl_cut {x : Str} (h : cpl x ≠ []) : cpl (StrLaws.sliceText x none (some (-1))) = (cpl x).dropLast := by
  have hl : 0 < (cpl x).length := List.length_pos_iff.mpr h
  have e : x.length = (cpl x).length := by simp [Str.length]
  rw [StrLaws.sliceText_neg_hi x none (by decide) (by omega), StrLaws.sliceText_to (by show 0 ≤ _ ∧ _ ≤ ((cpl x).length : Int); omega)]
  show (((cpl x).drop 0).take (-1 + (x.length : Int) - 0).toNat).toArray.toList = _
  rw [List.drop_zero, List.dropLast_eq_take, show (-1 + (x.length : Int) - 0).toNat = (cpl x).length - 1 by omega]
/-! scanning -/
theorem scan_enc {st : Nat → Bool} {q full : Bool} (h92 : st 92 = false) (hn : ∀ n, n ∉ cpl (needF q) → st n = false ∧ n ≠ 92) : ∀ (w rest : List Nat), scan st (w.flatMap (sgL q full) ++ rest) = (w ++ (scan st rest).1, (scan st rest).2)
  | [], rest => by simp
  | n :: w, rest => by
    have ih := scan_enc h92 hn w rest (full := full)
    rw [List.flatMap_cons, List.append_assoc]
    rcases sg_cases q full n with h | ⟨h, hne⟩
    · rw [h]
      show scan st (92 :: n :: (w.flatMap (sgL q full) ++ rest)) = _
      rw [scan_esc h92, ih]; rfl
    · rw [h]
      obtain ⟨h1, h2⟩ := hn n hne
      show scan st (n :: (w.flatMap (sgL q full) ++ rest)) = _
      rw [scan_one h1 h2, ih]; rfl
theorem need_q (n : Nat) (h : n ∉ cpl (needF true)) : (n == 34) = false ∧ n ≠ 92 := by
  have e : cpl (needF true) = [34, 92] := by rfl
  rw [e] at h
  simp at h
  exact ⟨by simp [h.1], h.2⟩
theorem ws_iff (n : Nat) : wsB n = true ↔ n = 10 ∨ n = 9 ∨ n = 13 ∨ n = 32 := by
  unfold wsB
  have e : wsF.cps.toList = [10, 9, 13, 32] := by rfl
  rw [e]; simp
theorem need_u (n : Nat) (h : n ∉ cpl (needF false)) : wsB n = false ∧ n ≠ 92 := by
  have e : cpl (needF false) = [92, 32, 9, 10, 13] := by rfl
  rw [e] at h
  simp at h
  refine ⟨?_, h.1⟩
  cases hw : wsB n with
  | false => rfl
  | true =>
    rcases (ws_iff n).mp hw with h1 | h1 | h1 | h1 <;> simp [h1] at h
theorem tokT_skip : ∀ (pre t : List Nat), (∀ c ∈ pre, wsB c = true) → tokT (pre ++ t) = tokT t
  | [], t, _ => rfl
  | c :: pre, t, h => by
    rw [List.cons_append, tokT_ws (h c List.mem_cons_self)]
    exact tokT_skip pre t fun c hc => h c (List.mem_cons_of_mem _ hc)
theorem gap_q : ∀ k < 5, ∀ c ∈ cpl ((gapsF true).getD k (Str.ofString "")), wsB c = true := by decide +kernel
theorem gap_u : ∀ k < 5, ∃ c g, cpl ((gapsF false).getD k (Str.ofString "")) = c :: g ∧ wsB c = true ∧ ∀ d ∈ g, wsB d = true := by
  intro k hk
  have h : k = 0 ∨ k = 1 ∨ k = 2 ∨ k = 3 ∨ k = 4 := by omega
  rcases h with h | h | h | h | h <;> subst h
  · exact ⟨32, [], by rfl, by decide, by simp⟩
  · exact ⟨9, [], by rfl, by decide, by simp⟩
  · exact ⟨10, [], by rfl, by decide, by simp⟩
  · exact ⟨13, [], by rfl, by decide, by simp⟩
  · exact ⟨10, [32], by rfl, by decide, by decide⟩
theorem tok_enc {sty : Nat} (hs : sty < 20) {n0 : Nat} {w : List Nat} (h0 : n0 ≠ 34) (tail : List Nat) : ∃ g, (∀ c ∈ g, wsB c = true) ∧ tokT (encL sty (n0 :: w) ++ tail) = (n0 :: w, g ++ tail) := by
  unfold encL
  cases hq : (sty % 2 == 1) with
  | true =>
    refine ⟨_, gap_q (sty / 4) (by omega), ?_⟩
    have e : cpl (markF true) = [34] := by rfl
    rw [e]
    simp only [List.append_assoc, List.nil_append, List.cons_append, tokT_quote]
    rw [scan_enc (st := fun c => c == 34) (by decide) need_q]
    rw [scan_stop (by decide)]
    simp
  | false =>
    obtain ⟨c, g, hg, hc, hgs⟩ := gap_u (sty / 4) (by omega)
    refine ⟨g, hgs, ?_⟩
    have e : cpl (markF false) = [] := by rfl
    rw [e, hg]
    simp only [List.append_nil, List.nil_append, List.append_assoc]
    have key : tokT ((n0 :: w).flatMap (sgL false (sty / 2 % 2 == 1)) ++ ((c :: g) ++ tail)) = scan wsB ((n0 :: w).flatMap (sgL false (sty / 2 % 2 == 1)) ++ ((c :: g) ++ tail)) := by
      rw [List.flatMap_cons]
      rcases sg_cases false (sty / 2 % 2 == 1) n0 with h | ⟨h, hne⟩
      · rw [h]; exact tokT_other (by decide) (by decide)
      · rw [h]; exact tokT_other (need_u n0 hne).1 h0
    rw [key, scan_enc (by decide) need_u, show (c :: g) ++ tail = c :: (g ++ tail) from rfl, scan_stop hc]
    simp
theorem tok_last : ∀ sty < 20, tokT ((encL sty [35]).dropLast) = ([35], []) := by decide +kernel
theorem enc_ne : ∀ sty < 20, encL sty [35] ≠ [] := by decide +kernel
/-! the words of a text -/
theorem restT_succ (t : List Nat) : ∀ i, restT t (i + 1) = restT (tokT t).2 i
  | 0 => rfl
  | i + 1 => by show (tokT (restT t (i + 1))).2 = (tokT (restT (tokT t).2 i)).2; rw [restT_succ t i]
noncomputable def okW (p : Nat × List Nat) : Prop := p.1 < 20 ∧ ∃ n0 w, p.2 = n0 :: w ∧ n0 ≠ 34
theorem toks_of : ∀ (l : List (Nat × List Nat)) (pre tail : List Nat), (∀ c ∈ pre, wsB c = true) → (∀ p ∈ l, okW p) →
    (∀ i p, l[i]? = some p → (tokT (restT (pre ++ l.flatMap (fun p => encL p.1 p.2) ++ tail) i)).1 = p.2) ∧ ∃ g, (∀ c ∈ g, wsB c = true) ∧ restT (pre ++ l.flatMap (fun p => encL p.1 p.2) ++ tail) l.length = g ++ tail
  | [], pre, tail, hp, _ => ⟨fun i p h => by simp at h, pre, hp, by simp [restT]⟩
  | (s, w) :: l, pre, tail, hp, hl => by
    obtain ⟨hs, n0, w', rfl, h0⟩ := hl (s, w) List.mem_cons_self
    obtain ⟨g, hg, e⟩ := tok_enc hs (w := w') h0 (l.flatMap (fun p => encL p.1 p.2) ++ tail)
    have e1 : pre ++ ((s, n0 :: w') :: l).flatMap (fun p => encL p.1 p.2) ++ tail = pre ++ (encL s (n0 :: w') ++ (l.flatMap (fun p => encL p.1 p.2) ++ tail)) := by
      rw [List.flatMap_cons]; simp [List.append_assoc]
    have e2 : tokT (pre ++ ((s, n0 :: w') :: l).flatMap (fun p => encL p.1 p.2) ++ tail) = (n0 :: w', g ++ (l.flatMap (fun p => encL p.1 p.2) ++ tail)) := by
      rw [e1, tokT_skip pre _ hp, e]
    obtain ⟨ih1, g', hg', ih2⟩ := toks_of l g tail hg (fun p hp => hl p (List.mem_cons_of_mem _ hp))
    rw [List.append_assoc] at ih1 ih2
    refine ⟨fun i p hi => ?_, g', hg', ?_⟩
    · cases i with
      | zero => cases hi; show (tokT (pre ++ _ ++ tail)).1 = _; rw [e2]
      | succ i => rw [restT_succ, e2]; exact ih1 i p hi
    · rw [List.length_cons, restT_succ, e2]; exact ih2
/-! the text of the law -/
noncomputable def wlL (xs : List Int) : List (Nat × List Nat) := (List.range (szN xs)).map fun k => (styleF (cellN xs 7) k, cpl (wordF xs k))
theorem styleF_lt (c i : Nat) : styleF c i < 20 := Nat.mod_lt _ (by decide)
theorem drawn_head : ∀ s ∈ ettK, ∃ n0 w, cpl s = n0 :: w ∧ n0 ≠ 34 := by
  intro s hs
  have h : ∀ s ∈ ettK, (match cpl s with | [] => false | n :: _ => n != 34) = true := by decide +kernel
  have := h s hs
  split at this
  · cases this
  · rename_i n w e; exact ⟨n, w, e, by simpa using this⟩
theorem word_head (xs : List Int) (k : Nat) : ∃ n0 w, cpl (wordF xs k) = n0 :: w ∧ n0 ≠ 34 := by
  obtain ⟨n0, w, e, h⟩ := drawn_head _ (drawn_mem xs k)
  unfold wordF
  rw [cpl_add, e]
  exact ⟨n0, _, rfl, h⟩
theorem wlL_ok (xs : List Int) : ∀ p ∈ wlL xs, okW p := fun p hp => by
  obtain ⟨k, _, rfl⟩ := List.mem_map.mp hp
  exact ⟨styleF_lt _ _, word_head xs k⟩
theorem txt_cpl (xs : List Int) : cpl (txtF xs) = [] ++ (wlL xs).flatMap (fun p => encL p.1 p.2) ++ (encL (styleF (cellN xs 7) (szN xs)) [35]).dropLast := by
  have hwl := words_len xs
  have e : cpl (textF (wordsL xs ++ [Str.ofString "#"]) (cellN xs 7)) = (wlL xs).flatMap (fun p => encL p.1 p.2) ++ encL (styleF (cellN xs 7) (szN xs)) [35] := by
    rw [cpl_text, List.length_append, hwl, show szN xs + [Str.ofString "#"].length = szN xs + 1 from rfl, List.range_succ, List.flatMap_append]
    have hfm : ∀ l : List Nat, (∀ i ∈ l, i < szN xs) → (l.flatMap fun i => encL (styleF (cellN xs 7) i) (cpl ((wordsL xs ++ [Str.ofString "#"]).getD i (Str.ofString "")))) = (l.map fun k => (styleF (cellN xs 7) k, cpl (wordF xs k))).flatMap fun p => encL p.1 p.2 := by
      intro l
      induction l with
      | nil => intro _; rfl
      | cons a l ih =>
        intro h
        rw [List.flatMap_cons, List.map_cons, List.flatMap_cons, ih fun i hi => h i (List.mem_cons_of_mem _ hi)]
        have ha := h a List.mem_cons_self
        have : (wordsL xs ++ [Str.ofString "#"]).getD a (Str.ofString "") = wordF xs a := by
          rw [List.getD_eq_getElem?_getD, List.getElem?_append_left (by omega), ← List.getD_eq_getElem?_getD]
          exact words_at xs ha
        rw [this]
    have hla : (wordsL xs ++ [Str.ofString "#"]).getD (szN xs) (Str.ofString "") = Str.ofString "#" := by
      rw [List.getD_eq_getElem?_getD, List.getElem?_append_right (by omega), hwl]; simp
    have hlb : cpl (Str.ofString "#") = [35] := by rfl
    rw [hfm _ fun i hi => List.mem_range.mp hi, List.flatMap_cons, List.flatMap_nil, List.append_nil, hla, hlb]
    unfold wlL
    rfl
  have hne := enc_ne _ (styleF_lt (cellN xs 7) (szN xs))
  unfold txtF
  rw [cpl_cut (by rw [e]; exact fun h => hne (List.append_eq_nil_iff.mp h).2), e, List.dropLast_append_of_ne_nil hne, List.nil_append]
theorem tx_cpl (s : Str) : tx (cpl s) = s := by cases s; simp [tx]
theorem law_toks (xs : List Int) : (∀ i < szN xs, tx (tokT (restT (txtF xs).cps.toList i)).1 = wordF xs i) ∧ tx (tokT (restT (txtF xs).cps.toList (szN xs))).1 = Str.ofString "#" ∧
    tx (tokT (restT (txtF xs).cps.toList (szN xs + 1))).1 = Str.ofString "" ∧ restT (txtF xs).cps.toList (szN xs + 2) = [] := by
  obtain ⟨h1, g, hg, h2⟩ := toks_of (wlL xs) [] ((encL (styleF (cellN xs 7) (szN xs)) [35]).dropLast) (by simp) (wlL_ok xs)
  have e : cpl (txtF xs) = _ := txt_cpl xs
  rw [← e] at h1 h2
  have hl : (wlL xs).length = szN xs := by simp [wlL]
  rw [hl] at h2
  have hw : ∀ i < szN xs, (wlL xs)[i]? = some (styleF (cellN xs 7) i, cpl (wordF xs i)) := fun i hi => by
    unfold wlL; rw [List.getElem?_map, List.getElem?_range hi]; rfl
  have hla := tok_last _ (styleF_lt (cellN xs 7) (szN xs))
  show (∀ i < szN xs, tx (tokT (restT (cpl (txtF xs)) i)).1 = wordF xs i) ∧ tx (tokT (restT (cpl (txtF xs)) (szN xs))).1 = Str.ofString "#" ∧
    tx (tokT (restT (cpl (txtF xs)) (szN xs + 1))).1 = Str.ofString "" ∧ restT (cpl (txtF xs)) (szN xs + 2) = []
  generalize cpl (txtF xs) = T at *
  generalize (encL (styleF (cellN xs 7) (szN xs)) [35]).dropLast = tail at *
  have hlast : tokT (restT T (szN xs)) = ([35], []) := by
    rw [h2, tokT_skip g _ hg]; exact hla
  have hr1 : restT T (szN xs + 1) = [] := by
    show (tokT _).2 = _; rw [hlast]
  refine ⟨fun i hi => ?_, ?_, ?_, ?_⟩
  · rw [h1 i _ (hw i hi)]; exact tx_cpl _
  · rw [hlast]; rfl
  · rw [hr1]; rfl
  · show (tokT (restT _ (szN xs + 1))).2 = _; rw [hr1]; rfl
theorem enc_len {sty : Nat} (hs : sty < 20) (w : List Nat) : (encL sty w).length ≤ 2 * w.length + 4 := by
  have h1 : ∀ q : Bool, (cpl (markF q)).length ≤ 1 := by decide +kernel
  have h2 : ∀ q : Bool, ∀ k < 5, (cpl ((gapsF q).getD k (Str.ofString ""))).length ≤ 2 := by decide +kernel
  have h3 : ∀ (q full : Bool) (w : List Nat), (w.flatMap (sgL q full)).length ≤ 2 * w.length := fun q full w => by
    induction w with
    | nil => simp
    | cons n w ih =>
      rw [List.flatMap_cons, List.length_append, List.length_cons]
      rcases sg_cases q full n with h | ⟨h, _⟩ <;> rw [h] <;> simp only [List.length_cons, List.length_nil] <;> omega
  unfold encL
  have a := h1 (sty % 2 == 1)
  have b := h2 (sty % 2 == 1) (sty / 4) (by omega)
  have c := h3 (sty % 2 == 1) (sty / 2 % 2 == 1) w
  simp only [List.length_append]
  omega
theorem txt_len (xs : List Int) : (txtF xs).length ≤ sizeLine := by
  have e : (txtF xs).length = (cpl (txtF xs)).length := by simp [Str.length]
  rw [e, txt_cpl]
  have h1 : ∀ l : List (Nat × List Nat), (∀ p ∈ l, p.1 < 20 ∧ p.2.length ≤ 5) → (l.flatMap (fun p => encL p.1 p.2)).length ≤ 14 * l.length := by
    intro l
    induction l with
    | nil => intro _; simp
    | cons p l ih =>
      intro h
      have h1 := ih fun p hp => h p (List.mem_cons_of_mem _ hp)
      have h2 := h p List.mem_cons_self
      have h3 := enc_len h2.1 p.2
      rw [List.flatMap_cons, List.length_append, List.length_cons]; omega
  have h2 := h1 (wlL xs) fun p hp => by
    obtain ⟨k, _, rfl⟩ := List.mem_map.mp hp
    have := (word_len xs k).1
    refine ⟨styleF_lt _ _, ?_⟩
    show (cpl (wordF xs k)).length ≤ 5
    have e2 : (wordF xs k).length = (cpl (wordF xs k)).length := by simp [Str.length]
    omega
  have h3 := enc_len (styleF_lt (cellN xs 7) (szN xs)) [35]
  have hl : (wlL xs).length = szN xs := by simp [wlL]
  have hn := sz_of xs
  have sl : sizeLine = 2 ^ 24 := by decide
  simp only [List.length_append, List.length_dropLast, List.length_nil, List.length_cons] at *
  omega
end
section
open PySem PySem.Spec PySem.Calls PyProof.Rows PySem.W PySem.SeqAt
noncomputable def goodB (pt : List Int) : Bool :=
  (pt.count 1 + pt.count 2 == pt.length) &&
  (List.range pt.length).all (fun t => (winF pt t).length == pt.length && decide ((chRows (winF pt t) (pt.count 1)).length ≤ (chCols (winF pt t) (pt.count 1) (pt.count 2)).length)) &&
  (chainsF pt).all (fun c => decide (c.length ≤ 6) && c.all fun y => decide (0 ≤ y) && decide (y < ((pt.count 1 * pt.count 2 : Nat) : Int)))
noncomputable def checkB (pt : List Int) : Bool := (List.range pt.length).all fun t => chk1 (pt.count 1) (pt.count 2) (heapsF pt) t && (chk2 (pt.count 1) (pt.count 2) (chainsF pt) (heapsF pt) t && chk3 (pt.count 1) (pt.count 2) (chainsF pt) (heapsF pt) t)
noncomputable def totB (pt : List Int) (b : Book) : Bool :=
  (b.a1 == ((pt.count 1 * pt.count 2 : Nat) : Int)) && (b.a2 == ((pt.length * pt.count 1 * pt.count 2 : Nat) : Int)) && (b.a3 == ((pt.length * pt.count 1 * pt.count 2 / 2 : Nat) : Int)) && (b.a4 == ((pt.length * (pt.length - 1) / 2 * pt.count 1 : Nat) : Int)) &&
  (b.ks.length == b.ls.length) && ((dueF pt).1.length == (dueF pt).2.length) && (b.ks.length == (dueF pt).1.length) && ((b.ks.zip b.ls).all fun p => vat (dueF pt).1 (dueF pt).2 p.1 == some p.2)
noncomputable def sumB (pt : List Int) : Bool := ((bksF pt).map quadB == List.replicate (pt.count 1) (quadW pt)) && decide ((bksF pt).length ≤ 6) && totB pt (totalF (bksF pt))
theorem good_of {pt : List Int} (h : goodB pt = true) : Good pt ∧ ∀ c ∈ chainsF pt, c.length ≤ 6 := by
  unfold goodB at h
  simp only [Bool.and_eq_true, beq_iff_eq, List.all_eq_true, decide_eq_true_eq] at h
  exact ⟨⟨h.1.1, fun t ht => h.1.2 t (List.mem_range.mpr ht), fun c hc y hy => (h.2 c hc).2 y hy⟩, fun c hc => (h.2 c hc).1⟩
theorem checks_of {pt : List Int} (h : checkB pt = true) (hl : ∀ c ∈ chainsF pt, c.length ≤ 6) : Checks pt := by
  unfold checkB at h
  simp only [Bool.and_eq_true, List.all_eq_true] at h
  exact ⟨fun t ht => (h t (List.mem_range.mpr ht)).1, fun t ht => (h t (List.mem_range.mpr ht)).2.1, fun t ht => (h t (List.mem_range.mpr ht)).2.2, hl⟩
theorem sums_of {pt : List Int} (h : sumB pt = true) : Sums pt := by
  unfold sumB totB at h
  simp only [Bool.and_eq_true, beq_iff_eq, List.all_eq_true, decide_eq_true_eq] at h
  obtain ⟨⟨h1, h2⟩, ⟨⟨⟨⟨⟨⟨h3, h4⟩, h5⟩, h6⟩, h7⟩, h8⟩, h9⟩, h10⟩ := h
  exact ⟨h1, h2, h3, h4, h5, h6, h7, h8, h9, fun p hp => h10 p hp⟩
theorem pats_mem : ∀ (pt : List Int), (∀ v ∈ pt, v = 1 ∨ v = 2) → pt ∈ pats pt.length
  | [], _ => by simp [pats]
  | v :: pt, h => by
    have ih := pats_mem pt fun u hu => h u (List.mem_cons_of_mem _ hu)
    rw [List.length_cons]
    unfold pats
    refine List.mem_flatMap.mpr ⟨pt, ih, ?_⟩
    rcases h v List.mem_cons_self with rfl | rfl <;> simp
theorem good4 : (pats 4).all (fun pt => goodB pt && (checkB pt && sumB pt)) = true := by decide +kernel
theorem good5 : (pats 5).all (fun pt => goodB pt && (checkB pt && sumB pt)) = true := by decide +kernel
theorem good6 : (pats 6).all (fun pt => goodB pt && (checkB pt && sumB pt)) = true := by decide +kernel
theorem pat_facts {pt : List Int} (h : ∀ v ∈ pt, v = 1 ∨ v = 2) (hn : pt.length = 4 ∨ pt.length = 5 ∨ pt.length = 6) : Good pt ∧ Checks pt ∧ Sums pt := by
  have hm := pats_mem pt h
  have key : (goodB pt && (checkB pt && sumB pt)) = true := by
    rcases hn with e | e | e <;> rw [e] at hm
    · exact List.all_eq_true.mp good4 pt hm
    · exact List.all_eq_true.mp good5 pt hm
    · exact List.all_eq_true.mp good6 pt hm
  simp only [Bool.and_eq_true] at key
  obtain ⟨g, hl⟩ := good_of key.1
  exact ⟨g, checks_of key.2.1 hl, sums_of key.2.2⟩
end
section
open PySem PySem.Spec PySem.Calls PyProof.Rows PySem.W PySem.SeqAt
theorem vat_put {K : Type} [DecidableEq K] {β : Type} (key k : K) (d : β) : ∀ (ks : List K) (l : List β), ks.length = l.length → vat (kput ks k) (vput ks l k d) key = if k = key then some d else vat ks l key := by
  intro ks
  induction ks with
  | nil =>
    intro l h
    cases l with
    | nil => show vat [k] [d] key = _; rw [vat_cons]
    | cons b l => simp at h
  | cons a ks ih =>
    intro l h
    cases l with
    | nil => simp at h
    | cons b l =>
      have hl : ks.length = l.length := by simpa using h
      by_cases hak : a = k
      · subst hak
        have e1 : kput (a :: ks) a = a :: ks := by unfold kput; rw [if_pos List.mem_cons_self]
        have e2 : vput (a :: ks) (b :: l) a d = d :: List.zipWith (fun k' d' => if k' = a then d else d') ks l := by
          unfold vput; rw [if_pos List.mem_cons_self, List.zipWith_cons_cons, if_pos rfl]
        rw [e1, e2, vat_cons, vat_cons]
        by_cases hk : a = key
        · rw [if_pos hk, if_pos hk]
        · rw [if_neg hk, if_neg hk, if_neg hk]
          have : ∀ (ks : List K) (l : List β), vat ks (List.zipWith (fun k' d' => if k' = a then d else d') ks l) key = vat ks l key := by
            intro ks
            induction ks with
            | nil => intro l; rfl
            | cons c ks ih =>
              intro l
              cases l with
              | nil => rfl
              | cons e l =>
                rw [List.zipWith_cons_cons, vat_cons, vat_cons, ih]
                by_cases hc : c = key
                · rw [if_pos hc, if_pos hc, if_neg (fun h : c = a => hk (h ▸ hc))]
                · rw [if_neg hc, if_neg hc]
          exact this ks l
      · have ih' := ih l hl
        by_cases hm : k ∈ ks
        · have e1 : kput (a :: ks) k = a :: kput ks k := by unfold kput; rw [if_pos (List.mem_cons_of_mem _ hm), if_pos hm]
          have e2 : vput (a :: ks) (b :: l) k d = b :: vput ks l k d := by
            unfold vput; rw [if_pos (List.mem_cons_of_mem _ hm), if_pos hm, List.zipWith_cons_cons, if_neg hak]
          rw [e1, e2, vat_cons, vat_cons, ih']
          by_cases hk : k = key
          · have : ¬ a = key := fun h => hak (h.trans hk.symm)
            simp only [if_pos hk, if_neg this]
          · simp only [if_neg hk]
        · have hm2 : k ∉ a :: ks := fun h => by rcases List.mem_cons.mp h with h | h; exact hak h.symm; exact hm h
          have e1 : kput (a :: ks) k = a :: kput ks k := by unfold kput; rw [if_neg hm2, if_neg hm]; rfl
          have e2 : vput (a :: ks) (b :: l) k d = b :: vput ks l k d := by unfold vput; rw [if_neg hm2, if_neg hm]; rfl
          rw [e1, e2, vat_cons, vat_cons, ih']
          by_cases hk : k = key
          · have : ¬ a = key := fun h => hak (h.trans hk.symm)
            simp only [if_pos hk, if_neg this]
          · simp only [if_neg hk]
theorem vat_putAll {K : Type} [DecidableEq K] {β : Type} (key : K) (d : β) : ∀ (l : List (K × β)) (ks : List K) (vs : List β), ks.length = vs.length → (∀ p ∈ l, p.1 = key → p.2 = d) → (vat ks vs key = some d ∨ ∃ p ∈ l, p.1 = key) → vat (putAll l (ks, vs)).1 (putAll l (ks, vs)).2 key = some d
  | [], ks, vs, _, _, h => by
    rcases h with h | ⟨p, hp, _⟩
    · exact h
    · cases hp
  | p :: l, ks, vs, hl, hd, h => by
    show vat (putAll l (kput ks p.1, vput ks vs p.1 p.2)).1 (putAll l (kput ks p.1, vput ks vs p.1 p.2)).2 key = some d
    refine vat_putAll key d l _ _ (put_len hl) (fun q hq => hd q (List.mem_cons_of_mem _ hq)) ?_
    by_cases hk : p.1 = key
    · left
      rw [vat_put key p.1 p.2 ks vs hl, if_pos hk, hd p List.mem_cons_self hk]
    · rcases h with h | ⟨q, hq, hqk⟩
      · left; rw [vat_put key p.1 p.2 ks vs hl, if_neg hk]; exact h
      · rcases List.mem_cons.mp hq with rfl | hq
        · exact absurd hqk hk
        · exact .inr ⟨q, hq, hqk⟩
noncomputable def decW (w : Str) : Str := ⟨(w.cps.toList.takeWhile fun c => c != 32 && c != 34 && c != 92).toArray⟩
theorem dec_ok : ∀ s ∈ ettK, ∀ f ∈ sufL, decW (s ++ f) = s := by decide +kernel
theorem dec_word (xs : List Int) (k : Nat) : decW (wordF xs k) = drawnF xs k := dec_ok _ (drawn_mem xs k) _ (suf_mem _)
theorem sym_at (xs : List Int) (e : Int) : ∀ k < szN xs, vat (symF xs e).1 (symF xs e).2 (wordF xs k) = some (V.int (numF (drawnF xs k) + 256 - e)) := fun k hk => by
  unfold symF
  refine vat_putAll _ _ _ _ _ rfl (fun p hp hpk => ?_) (.inr ⟨symP xs e k, List.mem_map.mpr ⟨k, List.mem_range.mpr hk, rfl⟩, rfl⟩)
  obtain ⟨j, _, rfl⟩ := List.mem_map.mp hp
  have hw : wordF xs j = wordF xs k := hpk
  have : drawnF xs j = drawnF xs k := by rw [← dec_word, ← dec_word, hw]
  show V.int (numF (drawnF xs j) + 256 - e) = _
  rw [this]
theorem patL_vals (xs : List Int) (e : Int) : ∀ v ∈ patL xs e, v = 1 ∨ v = 2 := fun v hv => by
  obtain ⟨k, _, rfl⟩ := List.mem_map.mp hv
  unfold kd; split
  · exact .inl rfl
  · exact .inr rfl
theorem patL_len (xs : List Int) (e : Int) : (patL xs e).length = szN xs := by simp [patL]
end
section
set_option compiler.extract_closed false
set_option maxHeartbeats 1000000


section
variable {X : Cx} {σ : St} {k : Nat} {P : V → St → Prop}
theorem law_walk (G : G3 X) (hL : LamOk X) (hA : Rm X.A (k + 9)) {pm cd doc dV kV : Value} {L fa : Addr} {xs : List Int} (hlen : xs.length ≤ 63) {Q : Fl → St → Prop}
    (h : ∀ loc cel tb rest, Q (.ret (.bool true)) ⟨loc, cel, [], [(136, Cell.raw (· = tabObj tb))] ++ rest⟩) : EX (X.callee (fdLaw pm cd doc dV kV) L fa) lawB ⟨[(Str.ofString "text", Option.none), (Str.ofString "few", Option.none), (Str.ofString "ranks", Option.none), (Str.ofString "told", Option.none), (Str.ofString "rest", Option.none), (Str.ofString "chains", Option.none), (Str.ofString "books", Option.none), (Str.ofString "total", Option.none), (Str.ofString "due", Option.none)], [(Str.ofString "script", some (V.list (xs.map V.int))), (Str.ofString "own", Option.none), (Str.ofString "cells", Option.none), (Str.ofString "size", Option.none), (Str.ofString "signs", Option.none), (Str.ofString "drawn", Option.none), (Str.ofString "words", Option.none), (Str.ofString "numbers", Option.none), (Str.ofString "edge", Option.none), (Str.ofString "lexer", Option.none), (Str.ofString "symbols", Option.none), (Str.ofString "kinds", Option.none), (Str.ofString "wide", Option.none), (Str.ofString "tall", Option.none), (Str.ofString "table", Option.none), (Str.ofString "spots", Option.none), (Str.ofString "heaps", Option.none), (Str.ofString "t", Option.none), (Str.ofString "after", Option.none)], [], [(136, Cell.raw (· = tabObj #[]))]⟩ Q := by
  obtain ⟨ht, ht1, ht2, hend⟩ := law_toks xs
  have hts := txt_len xs
  refine LW.out (i := 0) ?_
  refine LW.step 0 (by decide) (law_0 G hA ?_)
  refine LW.step 1 (by decide) (law_1 G hA hlen ?_)
  refine LW.step 2 (by decide) (law_2 G hA ?_)
  refine LW.step 3 (by decide) (law_3 G hA ?_)
  refine LW.step 4 (by decide) (law_4 G hA ?_)
  refine LW.step 5 (by decide) (law_5 G hA hlen ?_)
  refine LW.step 6 (by decide) (law_6 G hA fun rk hrk => ?_)
  refine LW.step 7 (by decide) (law_7 G hA hrk fun e he => ?_)
  refine LW.step 8 (by decide) (law_8 (m := []) G hA hL hts fun a tb hok => ?_)
  refine LW.step 9 (by decide) (law_9 (m := []) G hA hok hts ht ?_)
  refine LW.step 10 (by decide) (law_10 (m := []) G hA hok hts ht1 ht2 ?_)
  refine LW.step 11 (by decide) (law_11 G hA ?_)
  refine LW.step 12 (by decide) (law_12 G hA he (sym_at xs e) ?_)
  refine LW.step 13 (by decide) (law_13 G hA ?_)
  have hpt := patL_len xs e
  have hn := sz_of xs
  obtain ⟨hg, hc, hq⟩ := pat_facts (patL_vals xs e) (by rw [hpt]; exact hn)
  refine LW.step 14 (by decide) (law_14 G hA hpt ?_)
  refine LW.step 15 (by decide) (law_15 G hA hpt hg ?_)
  refine LW.step 16 (by decide) (law_16 G hA hpt hg ?_)
  refine LW.step 17 (by decide) (law_17 G hA hpt hg (fun c hcc => Nat.le_trans (hc.len c hcc) (by decide)) ?_)
  refine LW.step 18 (by decide) (law_18 G hA hpt hg hc fun w3 w4 => ?_)
  refine LW.step 19 (by decide) (law_19 G hA hpt hg hc ?_)
  refine LW.step 20 (by decide) (law_20 G hA hpt hg hq ?_)
  refine LW.step 21 (by decide) (law_21 G hA hpt hg ?_)
  refine LW.step 22 (by decide) (law_22 G hA hpt hg hq ?_)
  refine LW.step 23 (by decide) (law_23 (m := []) (mr := []) G hA hpt hend ?_)
  exact h _ _ _ _
end

end
section
set_option compiler.extract_closed false
set_option maxHeartbeats 1000000


theorem well_ints {P : Params} {h : Heap} {prog : Program} {w : World} {Z : ZM} : ∀ {xs : List Int} {vs : List Value}, WellAll P h vs (xs.map fun i => WData.int i) → VsRel prog w Z (xs.map V.int) vs
  | [], _, h => by cases h; rfl
  | x :: xs, _, h => by
    cases h with
    | cons h1 h2 =>
      cases h1
      exact ⟨_, _, rfl, ⟨_, rfl⟩, well_ints h2⟩
theorem ofPy_ints (xs : List Int) : ofPy (PyData.list (xs.map PyData.int)) = WData.list (xs.map fun i => WData.int i) := by
  have : ∀ l : List Int, ofPys (l.map PyData.int) = l.map fun i => WData.int i := by
    intro l
    induction l with
    | nil => rfl
    | cons i l ih => show ofPy (.int i) :: ofPys (l.map PyData.int) = _; rw [ih]; rfl
  show WData.list (ofPys (xs.map PyData.int)) = _
  rw [this]
open Classical in
theorem top_law {prog : Program} {w : World} {s : Shared} {p : Program} {loose : List Str} {mean : ExcName → Option Value} {mg mb : Str → Option Value} {fa a : Addr} {o : Obj} {pm cd doc : Value} {xs : List Int} {R : Result → Shared → Prop}
    (ho : s.heap.get? fa = some o) (hd : o.data = .func (fdLaw pm cd doc .none .none)) (hcd : s.heap.CodeRec cd (Str.ofString "law")) (hg : s.gens = #[]) (KX : (K3 w.params).In s.heap) (T : Top p loose mean mg mb s.heap) (hT : TabsAt [(140, 136)] s.heap)
    (hw : Well w.params s.heap (.ref a) (ofPy (PyData.list (xs.map PyData.int)))) (hlen : xs.length ≤ 63)
    (hR : ∀ s', OldK s.heap s'.heap → s'.os = s.os → AllBare s'.gens → R (.ok (.ret (.bool true))) s') : codeAny (model prog w) callerA (.call (.ref fa) ⟨[.ref a], []⟩) R s := by
  have hRm : Rm callerA 9 := ⟨rfl, by decide, by decide⟩
  obtain ⟨C1, C2⟩ := hT (140, 136) (by simp)
  have tab : s.heap.TableAt 140 136 #[] := C1.tab C2
  have hne : ∀ {b : Addr} {ob : Obj}, s.heap.get? b = some ob → ob.cls ≠ .none → b ≠ 136 := fun {b ob} e hc e2 => by
    subst e2
    rw [C2] at e; cases e; exact hc rfl
  have hhide : ∀ {b : Addr} {ob : Obj}, s.heap.get? b = some ob → b ≠ 136 → (s.heap.hide 136).get? b = some ob := fun e h => (Heap.hide_ne _ h).trans e
  let X : Cx := { prog := prog, w := w, A := callerA, env := callEnvC (fdLaw pm cd doc .none .none) 0 0, own := [], base := s.heap.hide 136, os := s.os }
  let Z : ZM := fun b => if Tb X b then none else X.base.get? b
  have zof : ∀ {b : Addr} {ob : Obj}, s.heap.get? b = some ob → ob.cls ≠ .none → Z b = some ob := fun {b ob} e hc => by
    have e2 := hhide e (hne e hc)
    show (if Tb X b then none else X.base.get? b) = _
    rw [if_neg ?_]
    · exact e2
    · rintro ⟨o2, vs2, h1, h2, _⟩
      have h1 : (s.heap.hide 136).get? b = some o2 := h1
      rw [e2] at h1; cases h1; exact hc h2
  have zin : ∀ b ob, Z b = some ob → s.heap.get? b = some ob := fun b ob e => by
    have e : (if Tb X b then none else X.base.get? b) = some ob := e
    split at e
    · cases e
    · exact Heap.of_hide e
  have G : G3 X := ⟨fun b ob e ne => hhide (KX b ob e) ne, (let ⟨mc, hn, e⟩ := T.nolimit; ⟨mc, hn.at' fun o e => hhide e (by decide), e⟩), ⟨mb, T.b.at' (fun o e => hhide e (by decide)), T.builtins⟩, ⟨mg, T.g.at' (fun o e => hhide e (by decide))⟩⟩
  have hL : LamOk X := by
    refine ⟨?_, mg, T.g.at' (fun o e => hhide e (by decide)), ?_⟩
    · obtain ⟨o, vs, file, tf, flags, tg, inF, text, tt, e, r⟩ := C1
      exact ⟨o, vs, file, tf, flags, tg, inF, text, tt, hhide e (by decide), r⟩
    · obtain ⟨bm, ob, b1, b2, b3, b4, b5, b6⟩ := T.bmain
      refine ⟨bm, ob, b1, b2, fun e => ?_, hhide b3 (hne b3 (by rw [b4]; intro h; cases h)), b4, b5, b6⟩
      obtain ⟨o', es, ep, h1, h2, _⟩ := T.g
      subst e
      rw [b3] at h1; cases h1
      rw [b6] at h2; cases h2
  rw [ofPy_ints] at hw
  obtain ⟨vs, hl, hv⟩ : ∃ vs : List Value, s.heap.get? a = some { cls := .type "list", data := .seq vs.toArray } ∧ WellAll w.params s.heap vs (xs.map fun i => WData.int i) := by
    cases hw with
    | list h1 h2 => exact ⟨_, h1, h2⟩
  have hm : (sub136 : List (Addr × Cell)) → sub136 = [(136, Cell.raw (· = tabObj #[]))] → keys sub136 = [136] := fun _ e => by rw [e]; rfl
  have h3 : ∃ o, Z mainGlobals = some o := by
    have := KX 3 _ (o3 w.params).2
    exact ⟨_, zof this (cls_ne (n := "dict") (by kernel_rfl))⟩
  refine topcall (k := 8) X (ps := [Str.ofString "script"]) (ds := [V.list (xs.map V.int)]) (Z := Z) (sub := [(136, Cell.raw (· = tabObj #[]))]) (loc := [(Str.ofString "text", Option.none), (Str.ofString "few", Option.none), (Str.ofString "ranks", Option.none), (Str.ofString "told", Option.none), (Str.ofString "rest", Option.none), (Str.ofString "chains", Option.none), (Str.ofString "books", Option.none), (Str.ofString "total", Option.none), (Str.ofString "due", Option.none)]) (cel := [(Str.ofString "script", some (V.list (xs.map V.int))), (Str.ofString "own", Option.none), (Str.ofString "cells", Option.none), (Str.ofString "size", Option.none), (Str.ofString "signs", Option.none), (Str.ofString "drawn", Option.none), (Str.ofString "words", Option.none), (Str.ofString "numbers", Option.none), (Str.ofString "edge", Option.none), (Str.ofString "lexer", Option.none), (Str.ofString "symbols", Option.none), (Str.ofString "kinds", Option.none), (Str.ofString "wide", Option.none), (Str.ofString "tall", Option.none), (Str.ofString "table", Option.none), (Str.ofString "spots", Option.none), (Str.ofString "heaps", Option.none), (Str.ofString "t", Option.none), (Str.ofString "after", Option.none)]) hRm T.nolimit ho hd (body := lawB) rfl (by kernel_rfl) hcd (by kernel_rfl) rfl (by kernel_rfl) trivial ⟨rfl, trivial⟩
    zin (fun b ob e ht => ?_) (fun b ht => ?_) ⟨fun b ob e => .inl (Heap.of_hide e), fun b ob e => ⟨ob, Heap.of_hide e⟩⟩ rfl ?_ h3 ?_ ?_ ?_ ?_ ?_ ?_ ⟨_, [], rfl, ⟨a, vs.toArray, _, rfl, zof hl (by intro h; cases h), ?_⟩, rfl⟩
    (law_walk (k := 0) (fa := fa) (xs := xs) (Q := fun f σ => ∃ loc cel tb rest, f = .ret (.bool true) ∧ σ = ⟨loc, cel, [], [(136, Cell.raw (· = tabObj tb))] ++ rest⟩) G hL hRm hlen fun loc cel tb rest => ⟨loc, cel, tb, rest, rfl, rfl⟩) ?_ (by kernel_rfl) (by kernel_rfl) (by kernel_rfl)
  · show (if Tb X b then none else X.base.get? b) = _
    rw [if_neg ht]; exact e
  · show (if Tb X b then none else X.base.get? b) = _
    rw [if_pos ht]
  · exact AllBare.of_eq hg
  · intro p hp
    simp only [List.mem_singleton] at hp
    subst hp
    exact ⟨_, C2, rfl⟩
  · simp [keys]
  · intro b hb; simp [keys] at hb; subst hb; exact ⟨_, C2⟩
  · intro b hb; simp [keys] at hb; subst hb
    show (if Tb X 136 then none else X.base.get? 136) = none
    split
    · rfl
    · exact Heap.hide_self _ _
  · intro b hb; simp [keys] at hb; subst hb; exact Heap.hide_self _ _
  · intro b hb; simp [keys] at hb; subst hb; decide
  · simpa using well_ints hv
  · rintro f d v s' σ' Z' r ⟨loc, cel, tb, rest, rfl, rfl⟩ rfl hvv
    cases hvv
    obtain ⟨ob, hob, rfl⟩ := r.mem (136, Cell.raw (· = tabObj tb)) (by simp)
    exact hR s' (oldK_unhide r.old (by decide) tab ⟨tb, by simp⟩ hob) r.os r.gens

end
section
open PySem PySem.W PyProof.Rows
set_option maxHeartbeats 0
theorem law3_holds : PySem.Challenge.rw_wz0015_03.Holds := headL (by
  intro w s₀ s₁ mg mb G Y fa o pm cd doc dV kV ho hd hcd hD hmg hg args vals as hpre hlay hrd hwl hlo
  have KX := km_in_of (K := K3) (e := asL_ok) (ts := [136]) Y
  have hT8 := km_tabs_of (K := K3) (e := asL_ok) (ts := [136]) Y
  have X := (Ground.X G).1
  have V := (Ground.X G).2
  refine Ground.open G ?_
  intro T B D TE TW
  try (refine guard_noD D (by decide +kernel) ?_; clear D)
  have hT9 : TabsAt [(140, 136)] s₁.heap := List.forall_mem_cons.mpr ⟨⟨codeHd_of_K (c := 140) (P := 136) KX (by kernel_rfl), hT8 136 (by simp)⟩, fun _ h => nomatch h⟩
  wrow_args hpre hlay hrd hwl hlo
  all_goals (
    first | refine callC_kw (enter_call ?_) | refine enter_call ?_)
  rename_i xs hs' hlay0 hL1 hr1 hl2 w4 w3 a w1' w0 hLL ra hw r0 hI hr hcond hcond2
  have dV0 : dV = .none := by
    rcases hD.pos with ⟨_, h⟩ | ⟨h, _⟩
    · exact h
    · exact absurd rfl h
  have kV0 : kV = .none := by
    rcases hD.kw with ⟨_, h⟩ | ⟨h, _⟩
    · exact h
    · exact absurd rfl h
  subst dV0 kV0
  refine top_law ho (by rw [hd]; rfl) hcd hg KX T (by assumption) hw (by omega) fun s' h1 h2 h3 => ?_
  refine ⟨.inl ⟨.bool true, .bool true, [], rfl, ?_, ?_, ?_, ?_⟩, h1, h2, h3⟩
  · intro cls; rfl
  · first | exact rfl | exact ⟨rfl, rfl⟩ | constructor | (unfold ReadsW; simp) | (unfold ReadsW; exact ⟨rfl, rfl⟩)
  · kernel_rfl
  · exact fun _ => ⟨List.nodup_nil, fun a h => by cases h⟩)
#print axioms law3_holds
end
end Mine
end
theorem PySem.Challenge.cw_wz0015_03_holds : PySem.Challenge.rw_wz0015_03.Holds :=
  Mine.law3_holds

import PyProof.Rows.All
import Wide.All
import Open.Line
import Wide.FinOn
import Lean
import PySem.Challenge.RW_il0031_01
section
open PySem PySem.W PyProof.Rows
set_option Elab.async false
set_option linter.unusedVariables false
namespace Mine

/-- the two kinds of text -/
inductive Kd where
  | s | b
  deriving DecidableEq

/-- values as trees; a cell is an object that may still change -/
inductive V where
  | none
  | bool (b : Bool)
  | int (i : Int)
  | tx (k : Kd) (l : List UInt8)
  | list (l : List V)
  | tup (l : List V)
  | fdict (l : List (Str × V))
  | cell (i : Nat)
  | ty (n : String)
  | fn (x : Str)

/-- what a cell holds -/
inductive MO where
  | dict (l : List (Str × V))
  | list (l : List V)

abbrev PS := Addr → Obj → Prop
/-- what stays as it is, and what stays so but for its slots -/
structure RS where
  ex : PS
  up : PS
noncomputable def RS.any (R : RS) : PS := fun b o => R.ex b o ∨ R.up b o
abbrev Loc := List (Str × V)

noncomputable def S8 (l : List UInt8) : Str := ⟨(l.map UInt8.toNat).toArray⟩

/-- a value seen as a tree -/
inductive Sees (prog : Program) (w : World) (mg : Str → Option Value) (P : PS) (δ : List Addr) : Value → V → Prop
  | none : Sees prog w mg P δ .none .none
  | bool (b : Bool) : Sees prog w mg P δ (.bool b) (.bool b)
  | int (i : Int) (t : Tok) : Sees prog w mg P δ (.int i t) (.int i)
  | str (l : List UInt8) (t : Tok) : Sees prog w mg P δ (.str (S8 l) t) (.tx .s l)
  | bytes (l : List UInt8) (t : Tok) : Sees prog w mg P δ (.bytes l.toArray t) (.tx .b l)
  | list (a : Addr) (o : Obj) (vs : List Value) (n : Nat) (xs : List V) : P a o → o.cls = .type "list" → o.data = .seq vs.toArray n → vs.length = xs.length → (∀ (i : Nat) v x, vs[i]? = some v → xs[i]? = some x → Sees prog w mg P δ v x) → Sees prog w mg P δ (.ref a) (.list xs)
  | tup (a : Addr) (o : Obj) (vs : List Value) (n : Nat) (xs : List V) : P a o → o.cls = .type "tuple" → o.data = .seq vs.toArray n → vs.length = xs.length → (∀ (i : Nat) v x, vs[i]? = some v → xs[i]? = some x → Sees prog w mg P δ v x) → Sees prog w mg P δ (.ref a) (.tup xs)
  | fdict (a : Addr) (o : Obj) (kvs : List (Str × Value)) (xs : List (Str × V)) : P a o → o.IsDictOf (strKind prog w) kvs → kvs.map (·.1) = xs.map (·.1) → (∀ (i : Nat) v x, kvs[i]? = some v → xs[i]? = some x → Sees prog w mg P δ v.2 x.2) → Sees prog w mg P δ (.ref a) (.fdict xs)
  | cell (a : Addr) (i : Nat) : δ[i]? = some a → Sees prog w mg P δ (.ref a) (.cell i)
  | ty (n : String) : Sees prog w mg P δ (.type n) (.ty n)
  | fn (x : Str) (a : Addr) : mg x = some (.ref a) → Sees prog w mg P δ (.ref a) (.fn x)

noncomputable def SeesL (prog : Program) (w : World) (mg : Str → Option Value) (P : PS) (δ : List Addr) (vs : List Value) (xs : List V) : Prop :=
  vs.length = xs.length ∧ ∀ (i : Nat) v x, vs[i]? = some v → xs[i]? = some x → Sees prog w mg P δ v x
noncomputable def SeesD (prog : Program) (w : World) (mg : Str → Option Value) (P : PS) (δ : List Addr) (vs : List (Str × Value)) (xs : List (Str × V)) : Prop :=
  vs.map (·.1) = xs.map (·.1) ∧ ∀ (i : Nat) v x, vs[i]? = some v → xs[i]? = some x → Sees prog w mg P δ v.2 x.2

section
variable {prog : Program} {w : World} {mg : Str → Option Value} {P P' : PS} {δ δ' : List Addr}
theorem Sees.mkList {a : Addr} {o : Obj} {vs : List Value} {n : Nat} {xs : List V} (h : P a o) (hc : o.cls = .type "list") (hd : o.data = .seq vs.toArray n) (hs : SeesL prog w mg P δ vs xs) : Sees prog w mg P δ (.ref a) (.list xs) :=
  .list a o vs n xs h hc hd hs.1 hs.2
theorem Sees.mkTup {a : Addr} {o : Obj} {vs : List Value} {n : Nat} {xs : List V} (h : P a o) (hc : o.cls = .type "tuple") (hd : o.data = .seq vs.toArray n) (hs : SeesL prog w mg P δ vs xs) : Sees prog w mg P δ (.ref a) (.tup xs) :=
  .tup a o vs n xs h hc hd hs.1 hs.2
theorem Sees.mkDict {a : Addr} {o : Obj} {kvs : List (Str × Value)} {xs : List (Str × V)} (h : P a o) (hd : o.IsDictOf (strKind prog w) kvs) (hs : SeesD prog w mg P δ kvs xs) : Sees prog w mg P δ (.ref a) (.fdict xs) :=
  .fdict a o kvs xs h hd hs.1 hs.2

/-- all that a tree tells of its value, at once -/
noncomputable def Tells (prog : Program) (w : World) (mg : Str → Option Value) (P : PS) (δ : List Addr) (v : Value) : V → Prop
  | .none => v = .none
  | .bool b => v = .bool b
  | .int i => ∃ t, v = .int i t
  | .tx .s l => ∃ t, v = .str (S8 l) t
  | .tx .b l => ∃ t, v = .bytes l.toArray t
  | .list xs => ∃ a o vs n, v = .ref a ∧ P a o ∧ o.cls = .type "list" ∧ o.data = .seq (vs : List Value).toArray n ∧ SeesL prog w mg P δ vs xs
  | .tup xs => ∃ a o vs n, v = .ref a ∧ P a o ∧ o.cls = .type "tuple" ∧ o.data = .seq (vs : List Value).toArray n ∧ SeesL prog w mg P δ vs xs
  | .fdict xs => ∃ a o kvs, v = .ref a ∧ P a o ∧ o.IsDictOf (strKind prog w) kvs ∧ SeesD prog w mg P δ kvs xs
  | .cell i => ∃ a, v = .ref a ∧ δ[i]? = some a
  | .ty n => v = .type n
  | .fn x => ∃ a, v = .ref a ∧ mg x = some (.ref a)
theorem Sees.tells {v : Value} {x : V} (h : Sees prog w mg P δ v x) : Tells prog w mg P δ v x := by
  induction h with
  | none => exact rfl
  | bool b => exact rfl
  | int i t => exact ⟨t, rfl⟩
  | str l t => exact ⟨t, rfl⟩
  | bytes l t => exact ⟨t, rfl⟩
  | list a o vs n xs h1 h2 h3 h4 h5 _ => exact ⟨a, o, vs, n, rfl, h1, h2, h3, h4, h5⟩
  | tup a o vs n xs h1 h2 h3 h4 h5 _ => exact ⟨a, o, vs, n, rfl, h1, h2, h3, h4, h5⟩
  | fdict a o kvs xs h1 h2 h3 h4 _ => exact ⟨a, o, kvs, rfl, h1, h2, h3, h4⟩
  | cell a i e => exact ⟨a, rfl, e⟩
  | ty n => exact rfl
  | fn x a e => exact ⟨a, rfl, e⟩
theorem get_prefix {α : Type} {l l' : List α} (h : l <+: l') {i : Nat} {a : α} (e : l[i]? = some a) : l'[i]? = some a := by
  obtain ⟨t, rfl⟩ := h
  have hi : i < l.length := (List.getElem?_eq_some_iff.mp e).1
  rw [List.getElem?_append_left hi]; exact e
theorem Sees.mono (hP : ∀ b o, P b o → P' b o) (hδ : δ <+: δ') {v : Value} {x : V} (h : Sees prog w mg P δ v x) : Sees prog w mg P' δ' v x := by
  induction h with
  | none => exact .none
  | bool b => exact .bool b
  | int i t => exact .int i t
  | str l t => exact .str l t
  | bytes l t => exact .bytes l t
  | list a o vs n xs h1 h2 h3 h4 _ ih => exact .list a o vs n xs (hP _ _ h1) h2 h3 h4 ih
  | tup a o vs n xs h1 h2 h3 h4 _ ih => exact .tup a o vs n xs (hP _ _ h1) h2 h3 h4 ih
  | fdict a o kvs xs h1 h2 h3 _ ih => exact .fdict a o kvs xs (hP _ _ h1) h2 h3 ih
  | cell a i e => exact .cell a i (get_prefix hδ e)
  | ty n => exact .ty n
  | fn x a e => exact .fn x a e
theorem SeesL.mono {vs : List Value} {xs : List V} (h : SeesL prog w mg P δ vs xs) (hP : ∀ b o, P b o → P' b o) (hδ : δ <+: δ') : SeesL prog w mg P' δ' vs xs := ⟨h.1, fun i v x a b => (h.2 i v x a b).mono hP hδ⟩
theorem SeesD.mono {vs : List (Str × Value)} {xs : List (Str × V)} (h : SeesD prog w mg P δ vs xs) (hP : ∀ b o, P b o → P' b o) (hδ : δ <+: δ') : SeesD prog w mg P' δ' vs xs := ⟨h.1, fun i v x a b => (h.2 i v x a b).mono hP hδ⟩
theorem SeesL.length {vs : List Value} {xs : List V} (h : SeesL prog w mg P δ vs xs) : vs.length = xs.length := h.1
theorem SeesL.nil : SeesL prog w mg P δ [] [] := ⟨rfl, fun _ _ _ e => by simp at e⟩
theorem SeesL.cons {v : Value} {x : V} {vs : List Value} {xs : List V} (h : Sees prog w mg P δ v x) (t : SeesL prog w mg P δ vs xs) : SeesL prog w mg P δ (v :: vs) (x :: xs) :=
  ⟨congrArg Nat.succ t.1, fun i u y a b => match i, a, b with
    | 0, a, b => Option.some.inj a ▸ Option.some.inj b ▸ h
    | i + 1, a, b => t.2 i u y (by simpa using a) (by simpa using b)⟩
theorem SeesL.cons_inv {us : List Value} {x : V} {xs : List V} (h : SeesL prog w mg P δ us (x :: xs)) : ∃ v vs, us = v :: vs ∧ Sees prog w mg P δ v x ∧ SeesL prog w mg P δ vs xs := by
  obtain ⟨h1, h2⟩ := h
  cases us with
  | nil => cases h1
  | cons v vs => exact ⟨v, vs, rfl, h2 0 v x rfl rfl, Nat.succ.inj h1, fun i u y a b => h2 (i + 1) u y (by simpa using a) (by simpa using b)⟩
theorem SeesL.nil_inv {us : List Value} (h : SeesL prog w mg P δ us []) : us = [] := List.length_eq_zero_iff.mp h.1
theorem SeesL.one {us : List Value} {x : V} (h : SeesL prog w mg P δ us [x]) : ∃ v, us = [v] ∧ Sees prog w mg P δ v x := by
  obtain ⟨v, vs, rfl, h1, h2⟩ := h.cons_inv
  exact ⟨v, by rw [h2.nil_inv], h1⟩
theorem SeesL.two {us : List Value} {x y : V} (h : SeesL prog w mg P δ us [x, y]) : ∃ v u, us = [v, u] ∧ Sees prog w mg P δ v x ∧ Sees prog w mg P δ u y := by
  obtain ⟨v, vs, rfl, h1, h2⟩ := h.cons_inv
  obtain ⟨u, rfl, h3⟩ := h2.one
  exact ⟨v, u, rfl, h1, h3⟩
theorem SeesL.get {vs : List Value} {xs : List V} (h : SeesL prog w mg P δ vs xs) {i : Nat} {x : V} (e : xs[i]? = some x) : ∃ v, vs[i]? = some v ∧ Sees prog w mg P δ v x := by
  have hi : i < vs.length := by rw [h.1]; exact (List.getElem?_eq_some_iff.mp e).1
  exact ⟨vs[i], by simp [hi], h.2 i _ x (by simp [hi]) e⟩
theorem SeesL.append {vs us : List Value} {xs ys : List V} (h : SeesL prog w mg P δ vs xs) (k : SeesL prog w mg P δ us ys) : SeesL prog w mg P δ (vs ++ us) (xs ++ ys) := by
  refine ⟨by rw [List.length_append, List.length_append, h.1, k.1], fun i v x a b => ?_⟩
  by_cases hi : i < vs.length
  · rw [List.getElem?_append_left hi] at a
    rw [List.getElem?_append_left (h.1 ▸ hi)] at b
    exact h.2 i v x a b
  · rw [List.getElem?_append_right (Nat.le_of_not_lt hi)] at a
    rw [List.getElem?_append_right (h.1 ▸ Nat.le_of_not_lt hi), ← h.1] at b
    exact k.2 _ v x a b
theorem SeesL.take (n : Nat) {vs : List Value} {xs : List V} (h : SeesL prog w mg P δ vs xs) : SeesL prog w mg P δ (vs.take n) (xs.take n) := by
  refine ⟨by rw [List.length_take, List.length_take, h.1], fun i v x a b => ?_⟩
  rw [List.getElem?_take] at a b
  split at a
  · rename_i hi
    rw [if_pos hi] at b
    exact h.2 i v x a b
  · cases a
theorem SeesL.drop (n : Nat) {vs : List Value} {xs : List V} (h : SeesL prog w mg P δ vs xs) : SeesL prog w mg P δ (vs.drop n) (xs.drop n) := by
  refine ⟨by rw [List.length_drop, List.length_drop, h.1], fun i v x a b => ?_⟩
  rw [List.getElem?_drop] at a b
  exact h.2 _ v x a b
theorem lookup_at {α : Type} {k : Str} {x : α} : ∀ {xs : List (Str × α)}, xs.lookup k = some x → ∃ i : Nat, xs[i]? = some (k, x) ∧ ∀ j : Nat, j < i → ∀ y, xs[j]? = some y → y.1 ≠ k := by
  intro xs
  induction xs with
  | nil => intro e; cases e
  | cons p r ih =>
    obtain ⟨k', y⟩ := p
    intro e
    rw [List.lookup_cons] at e
    by_cases hk : k = k'
    · subst hk
      simp only [beq_self_eq_true] at e
      cases e
      exact ⟨0, rfl, fun j hj => absurd hj (Nat.not_lt_zero _)⟩
    · have hb : (k == k') = false := by simpa using hk
      rw [hb] at e
      obtain ⟨i, h1, h2⟩ := ih e
      refine ⟨i + 1, by simpa using h1, fun j hj y hy => ?_⟩
      cases j with
      | zero => cases hy; exact fun q => hk q.symm
      | succ j => exact h2 j (Nat.lt_of_succ_lt_succ hj) y (by simpa using hy)
theorem SeesD.valueAt {k : Str} {x : V} {vs : List (Str × Value)} {xs : List (Str × V)} (h : SeesD prog w mg P δ vs xs) (e : xs.lookup k = some x) : ∃ v, PySem.valueAt vs k = some v ∧ Sees prog w mg P δ v x := by
  obtain ⟨i, h1, h2⟩ := lookup_at e
  have hl : vs.length = xs.length := by have := congrArg List.length h.1; simpa using this
  have hi : i < vs.length := by rw [hl]; exact (List.getElem?_eq_some_iff.mp h1).1
  have key : ∀ j : Nat, j < vs.length → ∀ v y, vs[j]? = some v → xs[j]? = some y → v.1 = y.1 := by
    intro j hj v y a b
    have : (vs.map (·.1))[j]? = (xs.map (·.1))[j]? := by rw [h.1]
    rw [List.getElem?_map, List.getElem?_map, a, b] at this
    exact Option.some.inj this
  have hv : vs[i]? = some vs[i] := by simp [hi]
  refine ⟨vs[i].2, ?_, h.2 i _ _ hv h1⟩
  have hk := key i hi _ _ hv h1
  unfold PySem.valueAt
  have : vs.find? (fun kv => decide (kv.1 = k)) = some vs[i] := by
    rw [List.find?_eq_some_iff_getElem]
    refine ⟨by simpa using hk, i, hi, rfl, fun j hj => ?_⟩
    have hj' : j < vs.length := Nat.lt_trans hj hi
    have hjx : j < xs.length := hl ▸ hj'
    have e1 := key j hj' vs[j] xs[j] (by simp [hj']) (by simp [hjx])
    have e2 := h2 j hj xs[j] (by simp [hjx])
    simpa [e1] using e2
  rw [this]; rfl
end

/-- the facts of the top -/
structure Glo where
  prog : Program
  w : World
  p : Program
  loose : List Str
  mean : ExcName → Option Value
  mg : Str → Option Value
  mb : Str → Option Value
  hb : Heap
  top : Top p loose mean mg mb hb

abbrev Glo.Sees (g : Glo) (P : PS) (δ : List Addr) := Mine.Sees g.prog g.w g.mg P δ
abbrev Glo.SeesL (g : Glo) (P : PS) (δ : List Addr) := Mine.SeesL g.prog g.w g.mg P δ
abbrev Glo.SeesD (g : Glo) (P : PS) (δ : List Addr) := Mine.SeesD g.prog g.w g.mg P δ

/-- the slots of a frame that may change: its names' table and its own captured names -/
noncomputable def slot (env : Env) (a : Addr) : Prop := a = env.locals ∨ ∃ x, env.kindOf x = some .cell ∧ env.cells.lookup x = some a

/-- where a name's value lies -/
noncomputable def Lies (env : Env) (R : RS) (h : Heap) (m : Str → Option Value) (x : Str) (v : Value) : Prop :=
  (env.kindOf x = some .local ∧ m x = some v) ∨
  (env.kindOf x = some .cell ∧ ∃ c, env.cells.lookup x = some c ∧ h.IsCell c (some v)) ∨
  (env.kindOf x = some .free ∧ ∃ c o, env.cells.lookup x = some c ∧ R.any c o ∧ o.data = .cell (some v))

noncomputable def MSees (g : Glo) (P : PS) (δ : List Addr) (h : Heap) (a : Addr) : MO → Prop
  | .dict xs => ∃ kvs, h.DictOf (strKind g.prog g.w) a kvs ∧ g.SeesD P δ kvs xs
  | .list xs => ∃ vs : List Value, h.PlainList a vs.toArray ∧ g.SeesL P δ vs xs

structure EnvOk (env : Env) (sc : Scope) : Prop where
  scope : env.scope = sc
  kind : sc.kind = .function
  globals : env.globals = mainGlobals
  builtins : env.builtins = builtinsNs

structure Inv (g : Glo) (R : RS) (P : PS) (δ : List Addr) (env : Env) (ρ : Loc) (σ : List MO) (h : Heap) : Prop where
  keepR : ∀ b o, R.ex b o → h.get? b = some o
  keepU : ∀ b o, R.up b o → ∃ sl, h.get? b = some { o with slots := sl }
  part : ∀ b o o', R.ex b o → ¬ R.up b o'
  keepP : ∀ b o, P b o → h.get? b = some o
  base : ∀ b o, g.hb.get? b = some o → R.ex b o
  sep : ∀ b o o', P b o → R.any b o' → ∃ q, g.hb.get? b = some q
  loc : ∃ m, h.Ns env.locals m ∧ ∀ x y, ρ.lookup x = some y → ∃ v, g.Sees P δ v y ∧ Lies env R h m x v
  cel : ∀ x, env.kindOf x = some .cell → ∃ c ov, env.cells.lookup x = some c ∧ h.IsCell c ov
  one : ∀ x y c, env.kindOf x = some .cell → env.kindOf y = some .cell → env.cells.lookup x = some c → env.cells.lookup y = some c → x = y
  nloc : ∀ x, env.kindOf x = some .cell → env.cells.lookup x ≠ some env.locals
  offP : ∀ a o, slot env a → ¬ P a o
  offR : ∀ a o, slot env a → ¬ R.any a o
  offD : ∀ a, slot env a → a ∉ δ
  dP : ∀ a o, a ∈ δ → ¬ P a o
  dR : ∀ a o, a ∈ δ → ¬ R.any a o
  dN : δ.Nodup
  len : δ.length = σ.length
  objs : ∀ (i : Nat) a o, δ[i]? = some a → σ[i]? = some o → MSees g P δ h a o


section
variable {g : Glo} {R : RS} {P : PS} {δ : List Addr} {env : Env} {ρ : Loc} {σ : List MO} {h h' : Heap}

theorem MSees.mono {P' : PS} {δ' : List Addr} {a : Addr} {o : MO} (hP : ∀ b o, P b o → P' b o) (hδ : δ <+: δ') (hk : ∀ q, h.get? a = some q → h'.get? a = some q) (x : MSees g P δ h a o) : MSees g P' δ' h' a o := by
  cases o with
  | dict xs =>
    obtain ⟨kvs, ⟨o, es, ep, ho, r⟩, hs⟩ := x
    exact ⟨kvs, ⟨o, es, ep, hk _ ho, r⟩, hs.mono hP hδ⟩
  | list xs =>
    obtain ⟨vs, ⟨n, ho⟩, hs⟩ := x
    exact ⟨vs, ⟨n, hk _ ho⟩, hs.mono hP hδ⟩

theorem Lies.keeps {m : Str → Option Value} {x : Str} {v : Value} (hk : ∀ c, slot env c → ∀ q, h.get? c = some q → h'.get? c = some q) (l : Lies env R h m x v) : Lies env R h' m x v := by
  rcases l with l | ⟨h1, c, h2, o, ho, hd⟩ | l
  · exact .inl l
  · exact .inr (.inl ⟨h1, c, h2, o, hk c (.inr ⟨x, h1, h2⟩) _ ho, hd⟩)
  · exact .inr (.inr l)

/-- the heap may grow and change anywhere else -/
theorem Inv.keeps (I : Inv g R P δ env ρ σ h) (hk : ∀ b o, ((∃ q, R.any b q) ∨ (∃ q, P b q) ∨ b ∈ δ ∨ slot env b) → h.get? b = some o → h'.get? b = some o) : Inv g R P δ env ρ σ h' where
  keepR := fun b o r => hk b o (.inl ⟨o, .inl r⟩) (I.keepR b o r)
  keepU := fun b o r => let ⟨sl, e⟩ := I.keepU b o r; ⟨sl, hk b _ (.inl ⟨o, .inr r⟩) e⟩
  part := I.part
  keepP := fun b o r => hk b o (.inr (.inl ⟨o, r⟩)) (I.keepP b o r)
  base := I.base
  sep := I.sep
  loc := by
    obtain ⟨m, ⟨o, es, ep, ho, r⟩, hm⟩ := I.loc
    refine ⟨m, ⟨o, es, ep, hk _ _ (.inr (.inr (.inr (.inl rfl)))) ho, r⟩, fun x y e => ?_⟩
    obtain ⟨v, hs, hl⟩ := hm x y e
    exact ⟨v, hs, hl.keeps fun c hc q e => hk _ _ (.inr (.inr (.inr hc))) e⟩
  cel := fun x hx => by
    obtain ⟨c, ov, hc, o, ho, hd⟩ := I.cel x hx
    exact ⟨c, ov, hc, o, hk _ _ (.inr (.inr (.inr (.inr ⟨x, hx, hc⟩)))) ho, hd⟩
  one := I.one
  nloc := I.nloc
  offP := I.offP
  offR := I.offR
  offD := I.offD
  dP := I.dP
  dR := I.dR
  dN := I.dN
  len := I.len
  objs := fun i a o hi ho => (I.objs i a o hi ho).mono (fun _ _ z => z) (List.prefix_refl _) fun q e => hk _ _ (.inr (.inr (.inl (List.mem_of_getElem? hi)))) e

theorem Inv.grows (I : Inv g R P δ env ρ σ h) (hk : ∀ b o, h.get? b = some o → h'.get? b = some o) : Inv g R P δ env ρ σ h' := I.keeps fun b o _ e => hk b o e

/-- an address that is nobody's -/
structure Free (R : RS) (P : PS) (δ : List Addr) (env : Env) (a : Addr) : Prop where
  r : ∀ o, ¬ R.any a o
  p : ∀ o, ¬ P a o
  d : a ∉ δ
  s : ¬ slot env a

theorem Inv.slot_lt (I : Inv g R P δ env ρ σ h) {a : Addr} (hs : slot env a) : ∃ o, h.get? a = some o := by
  rcases hs with rfl | ⟨x, hx, hc⟩
  · obtain ⟨m, ⟨o, es, ep, ho, r⟩, hm⟩ := I.loc
    exact ⟨o, ho⟩
  · obtain ⟨c, ov, hc', o, ho, hd⟩ := I.cel x hx
    rw [hc] at hc'
    cases hc'
    exact ⟨o, ho⟩
theorem Inv.cell_lt (I : Inv g R P δ env ρ σ h) {a : Addr} (hs : a ∈ δ) : ∃ o, h.get? a = some o := by
  obtain ⟨i, hi⟩ := List.mem_iff_getElem?.mp hs
  have hlt : i < σ.length := I.len ▸ (List.getElem?_eq_some_iff.mp hi).1
  have := I.objs i a σ[i] hi (by simp [hlt])
  cases hq : σ[i] with
  | dict xs => rw [hq] at this; obtain ⟨kvs, ⟨o, es, ep, ho, r⟩, hs⟩ := this; exact ⟨o, ho⟩
  | list xs => rw [hq] at this; obtain ⟨vs, ⟨n, ho⟩, hs⟩ := this; exact ⟨_, ho⟩

theorem Inv.free (I : Inv g R P δ env ρ σ h) {a : Addr} (ha : h.get? a = none) : Free R P δ env a where
  r := fun o x => by
    rcases x with x | x
    · rw [I.keepR _ _ x] at ha; cases ha
    · obtain ⟨sl, e⟩ := I.keepU _ _ x; rw [e] at ha; cases ha
  p := fun o x => by rw [I.keepP _ _ x] at ha; cases ha
  d := fun x => by obtain ⟨o, ho⟩ := I.cell_lt x; rw [ho] at ha; cases ha
  s := fun x => by obtain ⟨o, ho⟩ := I.slot_lt x; rw [ho] at ha; cases ha

theorem get_size_none (h : Heap) : h.get? h.objs.size = none := by
  cases e : h.get? h.objs.size with
  | none => rfl
  | some o => exact absurd (Heap.lt_size e) (Nat.lt_irrefl _)

noncomputable def pinned (P : PS) (a : Addr) (o : Obj) : PS := fun b q => P b q ∨ (b = a ∧ q = o)

/-- an object that is nobody's is pinned: it stays as it is from now on -/
theorem Inv.pin (I : Inv g R P δ env ρ σ h) {a : Addr} {o : Obj} (hf : Free R P δ env a) (ho : h.get? a = some o) : Inv g R (pinned P a o) δ env ρ σ h where
  keepR := I.keepR
  keepU := I.keepU
  part := I.part
  keepP := fun b q x => x.elim (I.keepP b q) fun ⟨e1, e2⟩ => by rw [e1, e2]; exact ho
  base := I.base
  sep := fun b q q' x y => x.elim (fun z => I.sep b q q' z y) fun ⟨e1, _⟩ => absurd (e1 ▸ y) (hf.r q')
  loc := by
    obtain ⟨m, hn, hm⟩ := I.loc
    refine ⟨m, hn, fun x y e => ?_⟩
    obtain ⟨v, hs, hl⟩ := hm x y e
    exact ⟨v, hs.mono (fun _ _ z => .inl z) (List.prefix_refl _), hl⟩
  cel := I.cel
  one := I.one
  nloc := I.nloc
  offP := fun b q hb x => x.elim (I.offP b q hb) fun ⟨e1, _⟩ => hf.s (e1 ▸ hb)
  offR := I.offR
  offD := I.offD
  dP := fun b q hb x => x.elim (I.dP b q hb) fun ⟨e1, _⟩ => hf.d (e1 ▸ hb)
  dR := I.dR
  dN := I.dN
  len := I.len
  objs := fun i b q hi hq => (I.objs i b q hi hq).mono (fun _ _ z => .inl z) (List.prefix_refl _) fun _ e => e

theorem Free.keep {a : Addr} (x : Free R P δ env a) {b : Addr} (k : (∃ q, R.any b q) ∨ (∃ q, P b q) ∨ b ∈ δ ∨ slot env b) : b ≠ a := by
  rintro rfl
  rcases k with ⟨q, k⟩ | ⟨q, k⟩ | k | k
  · exact x.r _ k
  · exact x.p _ k
  · exact x.d k
  · exact x.s k

/-- a step that touches one free address alone -/
theorem Inv.sameBut (I : Inv g R P δ env ρ σ h) {a : Addr} (hf : Free R P δ env a) (hs : Heap.SameBut a h h') : Inv g R P δ env ρ σ h' :=
  I.keeps fun b o k e => (hs.2 b (hf.keep k)).trans e

/-- a new cell -/
theorem Inv.newCell (I : Inv g R P δ env ρ σ h) {a : Addr} {o : MO} (hf : Free R P δ env a) (ho : MSees g P δ h a o) : Inv g R P (δ ++ [a]) env ρ (σ ++ [o]) h where
  keepR := I.keepR
  keepU := I.keepU
  part := I.part
  keepP := I.keepP
  base := I.base
  sep := I.sep
  loc := by
    obtain ⟨m, hn, hm⟩ := I.loc
    refine ⟨m, hn, fun x y e => ?_⟩
    obtain ⟨v, hs, hl⟩ := hm x y e
    exact ⟨v, hs.mono (fun _ _ z => z) (List.prefix_append _ _), hl⟩
  cel := I.cel
  one := I.one
  nloc := I.nloc
  offP := I.offP
  offR := I.offR
  offD := fun b hb x => (List.mem_append.mp x).elim (I.offD b hb) fun z => hf.s (List.mem_singleton.mp z ▸ hb)
  dP := fun b q hb => (List.mem_append.mp hb).elim (fun z => I.dP b q z) fun z => List.mem_singleton.mp z ▸ hf.p q
  dR := fun b q hb => (List.mem_append.mp hb).elim (fun z => I.dR b q z) fun z => List.mem_singleton.mp z ▸ hf.r q
  dN := List.nodup_append.mpr ⟨I.dN, by simp, fun x hx y hy e => hf.d (List.mem_singleton.mp hy ▸ e ▸ hx)⟩
  len := by simp [I.len]
  objs := fun i b q hi hq => by
    by_cases hlt : i < δ.length
    · rw [List.getElem?_append_left hlt] at hi
      rw [List.getElem?_append_left (I.len ▸ hlt)] at hq
      exact (I.objs i b q hi hq).mono (fun _ _ z => z) (List.prefix_append _ _) fun _ e => e
    · have hge : δ.length ≤ i := Nat.le_of_not_lt hlt
      rw [List.getElem?_append_right hge] at hi
      rw [List.getElem?_append_right (I.len ▸ hge)] at hq
      have hi0 : i - δ.length = 0 := by
        cases hz : i - δ.length with
        | zero => rfl
        | succ n => rw [hz] at hi; simp at hi
      rw [hi0] at hi
      rw [← I.len, hi0] at hq
      cases hi
      cases hq
      exact ho.mono (fun _ _ z => z) (List.prefix_append _ _) fun _ e => e

/-- a cell changes -/
theorem Inv.setCell (I : Inv g R P δ env ρ σ h) {i : Nat} {a : Addr} {o : MO} (hi : δ[i]? = some a) (hs : Heap.SameBut a h h') (ho : MSees g P δ h' a o) : Inv g R P δ env ρ (σ.set i o) h' := by
  have ha : a ∈ δ := List.mem_of_getElem? hi
  refine
  { keepR := fun b q r => (hs.2 b ?_).trans (I.keepR b q r)
    keepU := fun b q r => let ⟨sl, e⟩ := I.keepU b q r; ⟨sl, (hs.2 b (by rintro rfl; exact I.dR _ _ ha (.inr r))).trans e⟩
    part := I.part
    keepP := fun b q r => (hs.2 b ?_).trans (I.keepP b q r)
    base := I.base
    sep := I.sep
    loc := ?_
    cel := ?_
    one := I.one
    nloc := I.nloc
    offP := I.offP
    offR := I.offR
    offD := I.offD
    dP := I.dP
    dR := I.dR
    dN := I.dN
    len := by simp [I.len]
    objs := ?_ }
  · rintro rfl; exact I.dR _ _ ha (.inl r)
  · rintro rfl; exact I.dP _ _ ha r
  · obtain ⟨m, ⟨q, es, ep, hq, r⟩, hm⟩ := I.loc
    refine ⟨m, ⟨q, es, ep, (hs.2 _ ?_).trans hq, r⟩, fun x y e => ?_⟩
    · rintro z; exact I.offD _ (.inl rfl) (z ▸ ha)
    · obtain ⟨v, hsv, hl⟩ := hm x y e
      exact ⟨v, hsv, hl.keeps fun c hc q e => (hs.2 c (by rintro rfl; exact I.offD _ hc ha)).trans e⟩
  · intro x hx
    obtain ⟨c, ov, hc, q, hq, hd⟩ := I.cel x hx
    exact ⟨c, ov, hc, q, (hs.2 c (by rintro rfl; exact I.offD _ (.inr ⟨x, hx, hc⟩) ha)).trans hq, hd⟩
  · intro j b q hj hq
    by_cases hij : i = j
    · subst hij
      rw [hi] at hj
      cases hj
      have hlt : i < σ.length := I.len ▸ (List.getElem?_eq_some_iff.mp hi).1
      rw [List.getElem?_set_self hlt] at hq
      cases hq
      exact ho
    · rw [List.getElem?_set_ne hij] at hq
      have hba : b ≠ a := by
        rintro rfl
        have h1 : i < δ.length := (List.getElem?_eq_some_iff.mp hi).1
        exact hij ((List.getElem?_inj h1 I.dN).mp (hi.trans hj.symm))
      exact (I.objs j b q hj hq).mono (fun _ _ z => z) (List.prefix_refl _) fun z e => (hs.2 b hba).trans e

/-- fewer names -/
theorem Inv.forget {ρ' : Loc} (I : Inv g R P δ env ρ σ h) (hsub : ∀ x y, ρ'.lookup x = some y → ρ.lookup x = some y) : Inv g R P δ env ρ' σ h :=
  { I with loc := let ⟨m, hn, hm⟩ := I.loc; ⟨m, hn, fun x y e => hm x y (hsub x y e)⟩ }
end
end Mine
end
section
open PySem PySem.W PyProof.Rows
set_option Elab.async false
namespace Mine
abbrev NoE : Value → Shared → Prop := fun _ _ => False

noncomputable def isVar (sc : Scope) (x : Str) : Bool := match sc.names.lookup x with
  | some .local | some .cell => true
  | _ => false
noncomputable def canRead (sc : Scope) (x : Str) : Bool := match sc.names.lookup x with
  | some .local | some .cell | some .free => !(x == ("__classdict__" : Str)) && !(x == ("__debug__" : Str))
  | _ => false

section
variable {g : Glo} {R : RS} {P : PS} {δ : List Addr} {env : Env} {ρ : Loc} {σ : List MO} {sc : Scope}
variable {M : Model} {A : Around} {s : Shared} {E : Value → Shared → Prop}

theorem wp_load {x : Str} {y : V} {Q : Value → Shared → Prop} (O : EnvOk env sc) (I : Inv g R P δ env ρ σ s.heap) (hk : canRead sc x = true) (hy : ρ.lookup x = some y)
    (h : ∀ v, g.Sees P δ v y → Q v s) : wpAny M A (loadName env x) Q E s := by
  obtain ⟨m, hn, hm⟩ := I.loc
  obtain ⟨v, hs, hl⟩ := hm x y hy
  have hkind : env.scope.kind = .function := by rw [O.scope]; exact O.kind
  rcases hl with ⟨h1, h2⟩ | ⟨h1, c, h2, h3⟩ | ⟨h1, c, o, h2, h3, h4⟩
  · exact wpAny_loadName_local hkind h1 hn h2 (h v hs)
  · exact wpAny_loadName_cell hkind h1 h2 h3 (h v hs)
  · refine wpAny_loadName_free hkind h1 h2 (by
      rcases h3 with h3 | h3
      · exact ⟨o, I.keepR _ _ h3, h4⟩
      · obtain ⟨sl, e⟩ := I.keepU _ _ h3; exact ⟨_, e, h4⟩) (h v hs) ?_
    have h1' : sc.names.lookup x = some .free := by rw [← O.scope]; exact h1
    unfold canRead at hk
    rw [h1'] at hk
    simpa using (Bool.and_eq_true_iff.mp hk).1

theorem wp_store {x : Str} {y : V} {v : Value} {Q : Unit → Shared → Prop} (O : EnvOk env sc) (I : Inv g R P δ env ρ σ s.heap) (hk : isVar sc x = true) (hv : g.Sees P δ v y)
    (h : ∀ h' tk', Inv g R P δ env ((x, y) :: ρ) σ h' → Q () { s with heap := h', toks := tk' }) : wpAny M A (storeName env x v) Q E s := by
  have hkind : env.scope.kind = .function := by rw [O.scope]; exact O.kind
  have hp : (env.scope.kind == .class || (env.scope.kind == .module && env.locals != env.globals)) = false := by rw [hkind]; rfl
  obtain ⟨m, hn, hm⟩ := I.loc
  unfold isVar at hk
  rw [← O.scope] at hk
  have hkk : env.kindOf x = some .local ∨ env.kindOf x = some .cell := by
    show env.scope.names.lookup x = _ ∨ env.scope.names.lookup x = _
    revert hk
    cases env.scope.names.lookup x with
    | none => intro hk; cases hk
    | some k => cases k <;> intro hk <;> first | exact .inl rfl | exact .inr rfl | cases hk
  rcases hkk with hl | hl
  · refine wpAny_storeName_local hl hn (fun h' hn' hs' => h h' _ ?_) hp
    have hk' : ∀ b o, ((∃ q, R.any b q) ∨ (∃ q, P b q) ∨ b ∈ δ ∨ (∃ z, env.kindOf z = some .cell ∧ env.cells.lookup z = some b)) → s.heap.get? b = some o → h'.get? b = some o := by
      intro b o k e
      refine (hs'.2 b ?_).trans e
      rintro rfl
      rcases k with ⟨q, k⟩ | ⟨q, k⟩ | k | ⟨z, hz, hc⟩
      · exact I.offR _ _ (.inl rfl) k
      · exact I.offP _ _ (.inl rfl) k
      · exact I.offD _ (.inl rfl) k
      · exact I.nloc z hz hc
    exact
    { keepR := fun b o r => hk' b o (.inl ⟨o, .inl r⟩) (I.keepR b o r)
      keepU := fun b o r => let ⟨sl, e⟩ := I.keepU b o r; ⟨sl, hk' b _ (.inl ⟨o, .inr r⟩) e⟩
      part := I.part
      keepP := fun b o r => hk' b o (.inr (.inl ⟨o, r⟩)) (I.keepP b o r)
      base := I.base
      sep := I.sep
      loc := ⟨_, hn', fun z u e => by
        rw [List.lookup_cons] at e
        by_cases hz : z = x
        · subst hz
          simp only [beq_self_eq_true] at e
          cases e
          exact ⟨v, hv, .inl ⟨hl, by simp⟩⟩
        · have hb : (z == x) = false := by simpa using hz
          rw [hb] at e
          obtain ⟨u', hsu, hlu⟩ := hm z u e
          refine ⟨u', hsu, ?_⟩
          rcases hlu with ⟨a, b⟩ | ⟨a, c, b, o, ho, hd⟩ | l
          · exact .inl ⟨a, by simp [hz, b]⟩
          · exact .inr (.inl ⟨a, c, b, o, hk' c o (.inr (.inr (.inr ⟨z, a, b⟩))) ho, hd⟩)
          · exact .inr (.inr l)⟩
      cel := fun z hz => by
        obtain ⟨c, ov, hc, o, ho, hd⟩ := I.cel z hz
        exact ⟨c, ov, hc, o, hk' c o (.inr (.inr (.inr ⟨z, hz, hc⟩))) ho, hd⟩
      one := I.one
      nloc := I.nloc
      offP := I.offP
      offR := I.offR
      offD := I.offD
      dP := I.dP
      dR := I.dR
      dN := I.dN
      len := I.len
      objs := fun i b q hi hq => (I.objs i b q hi hq).mono (fun _ _ z => z) (List.prefix_refl _) fun z e => hk' b z (.inr (.inr (.inl (List.mem_of_getElem? hi)))) e }
  · obtain ⟨c, ov, hc, hcv⟩ := I.cel x hl
    refine wpAny_storeName_cell hkind hl hc hcv (fun h' hv' hs' => h h' s.toks ?_)
    have hsl : slot env c := .inr ⟨x, hl, hc⟩
    have hk' : ∀ b o, ((∃ q, R.any b q) ∨ (∃ q, P b q) ∨ b ∈ δ ∨ b = env.locals ∨ (∃ z, z ≠ x ∧ env.kindOf z = some .cell ∧ env.cells.lookup z = some b)) → s.heap.get? b = some o → h'.get? b = some o := by
      intro b o k e
      refine (hs'.2 b ?_).trans e
      rintro rfl
      rcases k with ⟨q, k⟩ | ⟨q, k⟩ | k | k | ⟨z, hzx, hz, hzc⟩
      · exact I.offR _ _ hsl k
      · exact I.offP _ _ hsl k
      · exact I.offD _ hsl k
      · exact I.nloc x hl (k ▸ hc)
      · exact hzx (I.one z x _ hz hl hzc hc)
    exact
    { keepR := fun b o r => hk' b o (.inl ⟨o, .inl r⟩) (I.keepR b o r)
      keepU := fun b o r => let ⟨sl, e⟩ := I.keepU b o r; ⟨sl, hk' b _ (.inl ⟨o, .inr r⟩) e⟩
      part := I.part
      keepP := fun b o r => hk' b o (.inr (.inl ⟨o, r⟩)) (I.keepP b o r)
      base := I.base
      sep := I.sep
      loc := by
        obtain ⟨o, es, ep, ho, r⟩ := hn
        refine ⟨m, ⟨o, es, ep, hk' _ _ (.inr (.inr (.inr (.inl rfl)))) ho, r⟩, fun z u e => ?_⟩
        rw [List.lookup_cons] at e
        by_cases hz : z = x
        · subst hz
          simp only [beq_self_eq_true] at e
          cases e
          exact ⟨v, hv, .inr (.inl ⟨hl, c, hc, hv'⟩)⟩
        · have hb : (z == x) = false := by simpa using hz
          rw [hb] at e
          obtain ⟨u', hsu, hlu⟩ := hm z u e
          refine ⟨u', hsu, ?_⟩
          rcases hlu with l | ⟨a, c', b, o', ho', hd⟩ | l
          · exact .inl l
          · exact .inr (.inl ⟨a, c', b, o', hk' c' o' (.inr (.inr (.inr (.inr ⟨z, hz, a, b⟩)))) ho', hd⟩)
          · exact .inr (.inr l)
      cel := fun z hz => by
        by_cases hzx : z = x
        · subst hzx
          exact ⟨c, _, hc, hv'⟩
        · obtain ⟨c', ov', hc', o, ho, hd⟩ := I.cel z hz
          exact ⟨c', ov', hc', o, hk' c' o (.inr (.inr (.inr (.inr ⟨z, hzx, hz, hc'⟩)))) ho, hd⟩
      one := I.one
      nloc := I.nloc
      offP := I.offP
      offR := I.offR
      offD := I.offD
      dP := I.dP
      dR := I.dR
      dN := I.dN
      len := I.len
      objs := fun i b q hi hq => (I.objs i b q hi hq).mono (fun _ _ z => z) (List.prefix_refl _) fun z e => hk' b z (.inr (.inr (.inl (List.mem_of_getElem? hi)))) e }
end
end Mine
end
section
open PySem PySem.W PyProof.Rows
set_option Elab.async false
set_option linter.unusedVariables false
namespace Mine
structure AOk (A : Around) (n : Nat) (R : RS) (env : Env) : Prop where
  handled : A.handled = none
  depth : A.depth + n ≤ 900
  units : A.units + 20 * n ≤ 9000
  stack : ∃ l L, A.frames = some l ∧ env.frame = some L ∧ (L = env.locals ∨ ∃ o, R.up L o) ∧ (∃ e0 outer, l = e0 :: outer ∧ e0.frame = some L) ∧ ∀ e ∈ l, e.scope.kind ≠ .module ∧ ∃ L, e.frame = some L ∧ (L = env.locals ∨ ∃ o, R.up L o ∧ ∀ vs, o.data ≠ .fields vs)

/-- what a tree does -/
structure Run (g : Glo) (sc : Scope) (n : Nat) {α : Type} (t : Env → Sem α) (ρ : Loc) (σ : List MO) (S : PS → List Addr → α → Prop) (σ' : List MO) : Prop where
  run : ∀ (env : Env) (A : Around) (R : RS) (P : PS) (δ : List Addr) (s : Shared) (Q : α → Shared → Prop), EnvOk env sc → AOk A n R env → Inv g R P δ env ρ σ s.heap →
    (∀ v P' δ' h' tk', (∀ b o, P b o → P' b o) → δ <+: δ' → Inv g R P' δ' env ρ σ' h' → S P' δ' v → Q v { s with heap := h', toks := tk' }) →
    wpAny (model g.prog g.w) A (t env) Q NoE s

noncomputable def Ev (g : Glo) (sc : Scope) (n : Nat) (e : Expr) (ρ : Loc) (σ : List MO) (x : V) (σ' : List MO) : Prop := Run g sc n (eval e) ρ σ (fun P δ v => g.Sees P δ v x) σ'
noncomputable def EvB (g : Glo) (sc : Scope) (n : Nat) (e : Expr) (ρ : Loc) (σ : List MO) (b : Bool) (σ' : List MO) : Prop := Run g sc n (fun env => isTrue e env (eval e env)) ρ σ (fun _ _ r => r = b) σ'
noncomputable def EvL (g : Glo) (sc : Scope) (n : Nat) (pos : Pos) (es : List Expr) (ρ : Loc) (σ : List MO) (xs : List V) (σ' : List MO) : Prop :=
  Run g sc n (fun env => spliced (backTo pos (starEach es env))) ρ σ (fun P δ v => g.SeesL P δ v xs) σ'

/-- what a step upon values does -/
noncomputable def Op (g : Glo) (n : Nat) {α : Type} (σ : List MO) (xs : List V) (t : List Value → Sem α) (S : PS → List Addr → α → Prop) (σ' : List MO) : Prop :=
  ∀ (env : Env) (ρ : Loc) (A : Around) (R : RS) (P : PS) (δ : List Addr) (s : Shared) (Q : α → Shared → Prop) (vs : List Value), AOk A n R env → Inv g R P δ env ρ σ s.heap → g.SeesL P δ vs xs →
    (∀ v P' δ' h' tk', (∀ b o, P b o → P' b o) → δ <+: δ' → Inv g R P' δ' env ρ σ' h' → S P' δ' v → Q v { s with heap := h', toks := tk' }) →
    wpAny (model g.prog g.w) A (t vs) Q NoE s

noncomputable def Op1 (g : Glo) (n : Nat) (σ : List MO) (t : Value → Sem Value) (x y : V) (σ' : List MO) : Prop := Op g n σ [x] (fun vs => match vs with | [v] => t v | _ => unsupported "") (fun P δ v => g.Sees P δ v y) σ'
noncomputable def Op2 (g : Glo) (n : Nat) (σ : List MO) (t : Value → Value → Sem Value) (x₁ x₂ y : V) (σ' : List MO) : Prop :=
  Op g n σ [x₁, x₂] (fun vs => match vs with | [v, u] => t v u | _ => unsupported "") (fun P δ v => g.Sees P δ v y) σ'
/-- the truth of a value -/
noncomputable def Tr (g : Glo) (n : Nat) (σ : List MO) (x : V) (b : Bool) : Prop := Op g n σ [x] (fun vs => match vs with | [v] => truthy v | _ => unsupported "") (fun _ _ r => r = b) σ

section
variable {g : Glo} {sc : Scope} {n : Nat} {ρ : Loc} {σ σ₁ σ₂ σ₃ : List MO}

theorem Op1.use {t : Value → Sem Value} {x y : V} {σ' : List MO} (o : Op1 g n σ t x y σ') {env : Env} {ρ : Loc} {A : Around} {R : RS} {P : PS} {δ : List Addr} {s : Shared} {Q : Value → Shared → Prop} {v : Value}
    (hA : AOk A n R env) (I : Inv g R P δ env ρ σ s.heap) (hv : g.Sees P δ v x)
    (h : ∀ r P' δ' h' tk', (∀ b o, P b o → P' b o) → δ <+: δ' → Inv g R P' δ' env ρ σ' h' → g.Sees P' δ' r y → Q r { s with heap := h', toks := tk' }) : wpAny (model g.prog g.w) A (t v) Q NoE s :=
  o env ρ A R P δ s Q [v] hA I (.cons hv .nil) h
theorem Op2.use {t : Value → Value → Sem Value} {x₁ x₂ y : V} {σ' : List MO} (o : Op2 g n σ t x₁ x₂ y σ') {env : Env} {ρ : Loc} {A : Around} {R : RS} {P : PS} {δ : List Addr} {s : Shared} {Q : Value → Shared → Prop} {v u : Value}
    (hA : AOk A n R env) (I : Inv g R P δ env ρ σ s.heap) (hv : g.Sees P δ v x₁) (hu : g.Sees P δ u x₂)
    (h : ∀ r P' δ' h' tk', (∀ b o, P b o → P' b o) → δ <+: δ' → Inv g R P' δ' env ρ σ' h' → g.Sees P' δ' r y → Q r { s with heap := h', toks := tk' }) : wpAny (model g.prog g.w) A (t v u) Q NoE s :=
  o env ρ A R P δ s Q [v, u] hA I (.cons hv (.cons hu .nil)) h
theorem Tr.use {x : V} {b : Bool} (o : Tr g n σ x b) {env : Env} {ρ : Loc} {A : Around} {R : RS} {P : PS} {δ : List Addr} {s : Shared} {Q : Bool → Shared → Prop} {v : Value}
    (hA : AOk A n R env) (I : Inv g R P δ env ρ σ s.heap) (hv : g.Sees P δ v x)
    (h : ∀ P' δ' h' tk', (∀ b o, P b o → P' b o) → δ <+: δ' → Inv g R P' δ' env ρ σ h' → Q b { s with heap := h', toks := tk' }) : wpAny (model g.prog g.w) A (truthy v) Q NoE s :=
  o env ρ A R P δ s Q [v] hA I (.cons hv .nil) fun r P' δ' h' tk' a b c e => e ▸ h P' δ' h' tk' a b c

theorem Op1.of {t : Value → Sem Value} {x y : V} {σ' : List MO}
    (k : ∀ (env : Env) (ρ : Loc) (A : Around) (R : RS) (P : PS) (δ : List Addr) (s : Shared) (Q : Value → Shared → Prop) (v : Value), AOk A n R env → Inv g R P δ env ρ σ s.heap → g.Sees P δ v x →
      (∀ r P' δ' h' tk', (∀ b o, P b o → P' b o) → δ <+: δ' → Inv g R P' δ' env ρ σ' h' → g.Sees P' δ' r y → Q r { s with heap := h', toks := tk' }) → wpAny (model g.prog g.w) A (t v) Q NoE s) : Op1 g n σ t x y σ' := by
  intro env ρ A R P δ s Q vs hA I hv h
  obtain ⟨v, rfl, a⟩ := hv.one
  exact k env ρ A R P δ s Q _ hA I a h
theorem Op2.of {t : Value → Value → Sem Value} {x₁ x₂ y : V} {σ' : List MO}
    (k : ∀ (env : Env) (ρ : Loc) (A : Around) (R : RS) (P : PS) (δ : List Addr) (s : Shared) (Q : Value → Shared → Prop) (v u : Value), AOk A n R env → Inv g R P δ env ρ σ s.heap → g.Sees P δ v x₁ → g.Sees P δ u x₂ →
      (∀ r P' δ' h' tk', (∀ b o, P b o → P' b o) → δ <+: δ' → Inv g R P' δ' env ρ σ' h' → g.Sees P' δ' r y → Q r { s with heap := h', toks := tk' }) → wpAny (model g.prog g.w) A (t v u) Q NoE s) : Op2 g n σ t x₁ x₂ y σ' := by
  intro env ρ A R P δ s Q vs hA I hv h
  obtain ⟨v, u, rfl, a, b⟩ := hv.two
  exact k env ρ A R P δ s Q _ _ hA I a b h
theorem Tr.of {x : V} {b : Bool}
    (k : ∀ (env : Env) (ρ : Loc) (A : Around) (R : RS) (P : PS) (δ : List Addr) (s : Shared) (Q : Bool → Shared → Prop) (v : Value), AOk A n R env → Inv g R P δ env ρ σ s.heap → g.Sees P δ v x →
      (∀ P' δ' h' tk', (∀ b o, P b o → P' b o) → δ <+: δ' → Inv g R P' δ' env ρ σ h' → Q b { s with heap := h', toks := tk' }) → wpAny (model g.prog g.w) A (truthy v) Q NoE s) : Tr g n σ x b := by
  intro env ρ A R P δ s Q vs hA I hv h
  obtain ⟨v, rfl, a⟩ := hv.one
  exact k env ρ A R P δ s Q _ hA I a fun P' δ' h' tk' x y z => h _ P' δ' h' tk' x y z rfl

/-- nothing but the tokens moves -/
theorem stay {α : Type} {R : RS} {P : PS} {δ : List Addr} {env : Env} {s : Shared} {Q : α → Shared → Prop} {S : PS → List Addr → α → Prop} {v : α} (tk : Nat) (I : Inv g R P δ env ρ σ s.heap)
    (h : ∀ v P' δ' h' tk', (∀ b o, P b o → P' b o) → δ <+: δ' → Inv g R P' δ' env ρ σ h' → S P' δ' v → Q v { s with heap := h', toks := tk' }) (hv : S P δ v) : Q v { s with toks := tk } :=
  h v P δ s.heap tk (fun _ _ z => z) (List.prefix_refl _) I hv

theorem Inv.pushPin {R : RS} {P : PS} {δ : List Addr} {env : Env} {h : Heap} (I : Inv g R P δ env ρ σ h) (o : Obj) (hf : o.isFreed = false := by rfl) : Inv g R (pinned P h.objs.size o) δ env ρ σ (h.push o) :=
  (I.grows fun b o' e => Heap.get?_push_of_some o e).pin (I.free (get_size_none h)) (Heap.get?_push_size h hf)

theorem pin_le {P : PS} {a : Addr} {o : Obj} : ∀ b q, P b q → pinned P a o b q := fun _ _ z => .inl z
theorem pin_at {P : PS} {a : Addr} {o : Obj} : pinned P a o a o := .inr ⟨rfl, rfl⟩

-- names and constants
theorem ev_name {x : Str} {p : Pos} {y : V} (hk : canRead sc x = true := by decide +kernel) (hy : ρ.lookup x = some y := by rfl) : Ev g sc n (.Name x p) ρ σ y σ := by
  refine .mk ?_
  intro env A R P δ s Q O _ I h
  refine wpAny_Name (wp_load O I hk hy fun v hs => stay s.toks I h hs) ?_
  unfold canRead at hk
  split at hk <;> first | (cases hk; done) | simpa using (Bool.and_eq_true_iff.mp hk).2
theorem ev_int {i : Int} {k : Nat} {p : Pos} : Ev g sc n (.Constant (.int i) k p) ρ σ (.int i) σ := .mk fun _ _ _ _ _ s _ _ _ I h => wpAny_Constant_int (stay (s.toks + 1) I h (.int _ _))
theorem ev_bool {b : Bool} {k : Nat} {p : Pos} : Ev g sc n (.Constant (.bool b) k p) ρ σ (.bool b) σ := .mk fun _ _ _ _ _ s _ _ _ I h => wpAny_Constant_bool (stay s.toks I h (.bool _))
theorem ev_none {k : Nat} {p : Pos} : Ev g sc n (.Constant .none k p) ρ σ .none σ := .mk fun _ _ _ _ _ s _ _ _ I h => wpAny_Constant_none (stay s.toks I h .none)
theorem ev_str {x : Str} {l : List UInt8} {k : Nat} {p : Pos} (hx : x = S8 l) : Ev g sc n (.Constant (.str x) k p) ρ σ (.tx .s l) σ := .mk fun _ _ _ _ _ s _ _ _ I h =>
  wpAny_Constant_str (stay (s.toks + 1) I h (hx ▸ .str _ _))
theorem ev_bytes {x : List UInt8} {k : Nat} {p : Pos} : Ev g sc n (.Constant (.bytes x) k p) ρ σ (.tx .b x) σ := .mk fun _ _ _ _ _ s _ _ _ I h =>
  PySem.W.Constant_bytes (stay (s.toks + 1) I h (.bytes _ _))

-- operators
theorem ev_bin {l r : Expr} {op : Operator} {p : Pos} {x₁ x₂ y : V} (h1 : Ev g sc n l ρ σ x₁ σ₁) (h2 : Ev g sc n r ρ σ₁ x₂ σ₂) (ho : Op2 g n σ₂ (binaryOp op) x₁ x₂ y σ₃) : Ev g sc n (.BinOp l op r p) ρ σ y σ₃ := by
  refine .mk ?_
  intro env A R P δ s Q O hA I h
  refine wpAny_BinOp (h1.run env A R P δ s _ O hA I fun v P₁ δ₁ hh₁ tk₁ le₁ pr₁ I₁ s₁ => ?_)
  refine h2.run env A R P₁ δ₁ _ _ O hA I₁ fun u P₂ δ₂ hh₂ tk₂ le₂ pr₂ I₂ s₂ => ?_
  exact ho.use (s := { s with heap := hh₂, toks := tk₂ }) hA I₂ (s₁.mono le₂ pr₂) s₂ fun r P₃ δ₃ hh₃ tk₃ le₃ pr₃ I₃ s₃ => h r P₃ δ₃ hh₃ tk₃ (fun b o z => le₃ b o (le₂ b o (le₁ b o z))) ((pr₁.trans pr₂).trans pr₃) I₃ s₃
theorem ev_un {op : UnaryOp} {e : Expr} {p : Pos} {x y : V} (h1 : Ev g sc n e ρ σ x σ₁) (ho : Op1 g n σ₁ (unaryOp op) x y σ₂) : Ev g sc n (.UnaryOp op e p) ρ σ y σ₂ := by
  refine .mk ?_
  intro env A R P δ s Q O hA I h
  refine wpAny_UnaryOp (h1.run env A R P δ s _ O hA I fun v P₁ δ₁ hh₁ tk₁ le₁ pr₁ I₁ s₁ => ?_)
  exact ho.use (s := { s with heap := hh₁, toks := tk₁ }) hA I₁ s₁ fun r P₃ δ₃ hh₃ tk₃ le₃ pr₃ I₃ s₃ => h r P₃ δ₃ hh₃ tk₃ (fun b o z => le₃ b o (le₁ b o z)) (pr₁.trans pr₃) I₃ s₃
theorem ev_cmp {l r : Expr} {op : CmpOp} {p : Pos} {x₁ x₂ y : V} (h1 : Ev g sc n l ρ σ x₁ σ₁) (h2 : Ev g sc n r ρ σ₁ x₂ σ₂) (ho : Op2 g n σ₂ (compareOp op) x₁ x₂ y σ₃)
    (hm : behindInMarks op r = false := by with_unfolding_all rfl) : Ev g sc n (.Compare l [op] [r] p) ρ σ y σ₃ := by
  refine .mk ?_
  intro env A R P δ s Q O hA I h
  refine wpAny_Compare1 (h1.run env A R P δ s _ O hA I fun v P₁ δ₁ hh₁ tk₁ le₁ pr₁ I₁ s₁ => ?_) hm
  refine h2.run env A R P₁ δ₁ _ _ O hA I₁ fun u P₂ δ₂ hh₂ tk₂ le₂ pr₂ I₂ s₂ => ?_
  exact ho.use (s := { s with heap := hh₂, toks := tk₂ }) hA I₂ (s₁.mono le₂ pr₂) s₂ fun r P₃ δ₃ hh₃ tk₃ le₃ pr₃ I₃ s₃ => h r P₃ δ₃ hh₃ tk₃ (fun b o z => le₃ b o (le₂ b o (le₁ b o z))) ((pr₁.trans pr₂).trans pr₃) I₃ s₃

-- tests
theorem evb_cmp {l r : Expr} {op : CmpOp} {p : Pos} {x₁ x₂ : V} {b : Bool} (h1 : Ev g sc n l ρ σ x₁ σ₁) (h2 : Ev g sc n r ρ σ₁ x₂ σ₂) (ho : Op2 g n σ₂ (compareOp op) x₁ x₂ (.bool b) σ₃)
    (hm : behindInMarks op r = false := by with_unfolding_all rfl) : EvB g sc n (.Compare l [op] [r] p) ρ σ b σ₃ := by
  refine .mk ?_
  intro env A R P δ s Q O hA I h
  refine wpAny_isTrue_Compare1 (h1.run env A R P δ s _ O hA I fun v P₁ δ₁ hh₁ tk₁ le₁ pr₁ I₁ s₁ => ?_) hm
  refine h2.run env A R P₁ δ₁ _ _ O hA I₁ fun u P₂ δ₂ hh₂ tk₂ le₂ pr₂ I₂ s₂ => ?_
  refine ho.use (s := { s with heap := hh₂, toks := tk₂ }) hA I₂ (s₁.mono le₂ pr₂) s₂ fun r P₃ δ₃ hh₃ tk₃ le₃ pr₃ I₃ s₃ => ?_
  obtain rfl := s₃.tells
  exact wpAny_truthy_bool (h b P₃ δ₃ hh₃ tk₃ (fun b o z => le₃ b o (le₂ b o (le₁ b o z))) ((pr₁.trans pr₂).trans pr₃) I₃ rfl)
theorem evb_not {e : Expr} {p : Pos} {b : Bool} (h1 : EvB g sc n e ρ σ b σ₁) : EvB g sc n (.UnaryOp .Not e p) ρ σ (!b) σ₁ := by
  refine .mk ?_
  intro env A R P δ s Q O hA I h
  exact wpAny_isTrue_Not (h1.run env A R P δ s _ O hA I fun v P₁ δ₁ hh₁ tk₁ le₁ pr₁ I₁ s₁ => h (!v) P₁ δ₁ hh₁ tk₁ le₁ pr₁ I₁ (by rw [s₁]))
/-- a test that is no comparison, no not, no and, or, if -/
noncomputable def plainTest : Expr → Bool
  | .UnaryOp .Not _ _ | .BoolOp .. | .IfExp .. | .Compare .. => false
  | _ => true
theorem evb_val {e : Expr} {x : V} {b : Bool} (he : plainTest e = true) (h1 : Ev g sc n e ρ σ x σ₁) (ht : Tr g n σ₁ x b) : EvB g sc n e ρ σ b σ₁ := by
  refine .mk ?_
  intro env A R P δ s Q O hA I h
  refine wpAny_isTrue_value (h1.run env A R P δ s _ O hA I fun v P₁ δ₁ hh₁ tk₁ le₁ pr₁ I₁ s₁ => ?_) ?_
  · exact ht.use (s := { s with heap := hh₁, toks := tk₁ }) hA I₁ s₁ fun P₃ δ₃ hh₃ tk₃ le₃ pr₃ I₃ => h b P₃ δ₃ hh₃ tk₃ (fun b o z => le₃ b o (le₁ b o z)) (pr₁.trans pr₃) I₃ rfl
  · cases e with
    | UnaryOp op a b => cases op <;> first | (cases he; done) | rfl
    | BoolOp | IfExp | Compare => cases he
    | _ => rfl
/-- and, or among tests: the second is asked only where the first leaves it open -/
theorem evb_and {x y : Expr} {p : Pos} {b c : Bool} (h1 : EvB g sc n x ρ σ b σ) (h2 : b = true → EvB g sc n y ρ σ c σ) : EvB g sc n (.BoolOp .And [x, y] p) ρ σ (b && c) σ := by
  refine .mk ?_
  intro env A R P δ s Q O hA I h
  refine wpAny_isTrue_BoolOp (wpAny_allTrue_And_cons (h1.run env A R P δ s _ O hA I fun v P₁ δ₁ hh₁ tk₁ le₁ pr₁ I₁ s₁ => ?_))
  subst s₁
  cases v with
  | false => exact h false P₁ δ₁ hh₁ tk₁ le₁ pr₁ I₁ rfl
  | true =>
    refine wpAny_allTrue_And_cons ((h2 rfl).run env A R P₁ δ₁ _ _ O hA I₁ fun u P₂ δ₂ hh₂ tk₂ le₂ pr₂ I₂ s₂ => ?_)
    subst s₂
    cases u with
    | false => exact h false P₂ δ₂ hh₂ tk₂ (fun b o z => le₂ b o (le₁ b o z)) (pr₁.trans pr₂) I₂ rfl
    | true => exact wpAny_allTrue_And_nil (h true P₂ δ₂ hh₂ tk₂ (fun b o z => le₂ b o (le₁ b o z)) (pr₁.trans pr₂) I₂ rfl)
theorem evb_or {x y : Expr} {p : Pos} {b c : Bool} (h1 : EvB g sc n x ρ σ b σ) (h2 : b = false → EvB g sc n y ρ σ c σ) : EvB g sc n (.BoolOp .Or [x, y] p) ρ σ (b || c) σ := by
  refine .mk ?_
  intro env A R P δ s Q O hA I h
  refine wpAny_isTrue_BoolOp (wpAny_allTrue_Or_cons (h1.run env A R P δ s _ O hA I fun v P₁ δ₁ hh₁ tk₁ le₁ pr₁ I₁ s₁ => ?_))
  subst s₁
  cases v with
  | true => exact h true P₁ δ₁ hh₁ tk₁ le₁ pr₁ I₁ rfl
  | false =>
    refine wpAny_allTrue_Or_cons ((h2 rfl).run env A R P₁ δ₁ _ _ O hA I₁ fun u P₂ δ₂ hh₂ tk₂ le₂ pr₂ I₂ s₂ => ?_)
    subst s₂
    cases u with
    | true => exact h true P₂ δ₂ hh₂ tk₂ (fun b o z => le₂ b o (le₁ b o z)) (pr₁.trans pr₂) I₂ rfl
    | false => exact wpAny_allTrue_Or_nil (h false P₂ δ₂ hh₂ tk₂ (fun b o z => le₂ b o (le₁ b o z)) (pr₁.trans pr₂) I₂ rfl)
theorem evb_or3 {x y z : Expr} {p : Pos} {b c d : Bool} (h1 : EvB g sc n x ρ σ b σ) (h2 : b = false → EvB g sc n y ρ σ c σ) (h3 : b = false → c = false → EvB g sc n z ρ σ d σ) :
    EvB g sc n (.BoolOp .Or [x, y, z] p) ρ σ (b || c || d) σ := by
  refine .mk ?_
  intro env A R P δ s Q O hA I h
  refine wpAny_isTrue_BoolOp (wpAny_allTrue_Or_cons (h1.run env A R P δ s _ O hA I fun v P₁ δ₁ hh₁ tk₁ le₁ pr₁ I₁ s₁ => ?_))
  subst s₁
  cases v with
  | true => exact h true P₁ δ₁ hh₁ tk₁ le₁ pr₁ I₁ rfl
  | false =>
    refine wpAny_allTrue_Or_cons ((h2 rfl).run env A R P₁ δ₁ _ _ O hA I₁ fun u P₂ δ₂ hh₂ tk₂ le₂ pr₂ I₂ s₂ => ?_)
    subst s₂
    cases u with
    | true => exact h true P₂ δ₂ hh₂ tk₂ (fun b o z => le₂ b o (le₁ b o z)) (pr₁.trans pr₂) I₂ rfl
    | false =>
      refine wpAny_allTrue_Or_cons ((h3 rfl rfl).run env A R P₂ δ₂ _ _ O hA I₂ fun u P₃ δ₃ hh₃ tk₃ le₃ pr₃ I₃ s₃ => ?_)
      subst s₃
      cases u with
      | true => exact h true P₃ δ₃ hh₃ tk₃ (fun b o z => le₃ b o (le₂ b o (le₁ b o z))) ((pr₁.trans pr₂).trans pr₃) I₃ rfl
      | false => exact wpAny_allTrue_Or_nil (h false P₃ δ₃ hh₃ tk₃ (fun b o z => le₃ b o (le₂ b o (le₁ b o z))) ((pr₁.trans pr₂).trans pr₃) I₃ rfl)

/-- or, and as values -/
theorem ev_or {x y : Expr} {p : Pos} {a c : V} {b : Bool} (h1 : Ev g sc n x ρ σ a σ) (ht : Tr g n σ a b) (h2 : b = false → Ev g sc n y ρ σ c σ) : Ev g sc n (.BoolOp .Or [x, y] p) ρ σ (if b then a else c) σ := by
  refine .mk ?_
  intro env A R P δ s Q O hA I h
  refine wpAny_Or2 (h1.run env A R P δ s _ O hA I fun v P₁ δ₁ hh₁ tk₁ le₁ pr₁ I₁ s₁ => ?_)
  refine ht.use (s := { s with heap := hh₁, toks := tk₁ }) hA I₁ s₁ fun P₃ δ₃ hh₃ tk₃ le₃ pr₃ I₃ => ?_
  cases b with
  | true => exact h v P₃ δ₃ hh₃ tk₃ (fun b o z => le₃ b o (le₁ b o z)) (pr₁.trans pr₃) I₃ (s₁.mono le₃ pr₃)
  | false =>
    refine (h2 rfl).run env A R P₃ δ₃ _ _ O hA I₃ fun u P₂ δ₂ hh₂ tk₂ le₂ pr₂ I₂ s₂ => ?_
    exact h u P₂ δ₂ hh₂ tk₂ (fun b o z => le₂ b o (le₃ b o (le₁ b o z))) ((pr₁.trans pr₃).trans pr₂) I₂ s₂
theorem ev_if {t b o : Expr} {p : Pos} {c : Bool} {x y : V} (h1 : EvB g sc n t ρ σ c σ) (h2 : c = true → Ev g sc n b ρ σ x σ) (h3 : c = false → Ev g sc n o ρ σ y σ) : Ev g sc n (.IfExp t b o p) ρ σ (if c then x else y) σ := by
  refine .mk ?_
  intro env A R P δ s Q O hA I h
  refine wpAny_IfExp (h1.run env A R P δ s _ O hA I fun v P₁ δ₁ hh₁ tk₁ le₁ pr₁ I₁ s₁ => ?_)
  subst s₁
  cases v with
  | true => exact (h2 rfl).run env A R P₁ δ₁ _ _ O hA I₁ fun u P₂ δ₂ hh₂ tk₂ le₂ pr₂ I₂ s₂ => h u P₂ δ₂ hh₂ tk₂ (fun b o z => le₂ b o (le₁ b o z)) (pr₁.trans pr₂) I₂ s₂
  | false => exact (h3 rfl).run env A R P₁ δ₁ _ _ O hA I₁ fun u P₂ δ₂ hh₂ tk₂ le₂ pr₂ I₂ s₂ => h u P₂ δ₂ hh₂ tk₂ (fun b o z => le₂ b o (le₁ b o z)) (pr₁.trans pr₂) I₂ s₂

-- displays
theorem ev_list {es : List Expr} {p : Pos} {xs : List V} (h1 : EvL g sc n p es ρ σ xs σ₁) (hz : xs.length ≤ 16777216 := by simp) : Ev g sc n (.List es p) ρ σ (.list xs) σ₁ := by
  refine .mk ?_
  intro env A R P δ s Q O hA I h
  refine wpAny_List_spliced (h1.run env A R P δ s _ O hA I fun vs P₁ δ₁ hh₁ tk₁ le₁ pr₁ I₁ s₁ => ⟨by rw [s₁.length, sizeLine_eq]; exact hz, ?_⟩)
  exact h _ _ δ₁ (hh₁.push _) tk₁ (fun b o z => pin_le b o (le₁ b o z)) pr₁ (I₁.pushPin _) (.mkList pin_at rfl rfl (s₁.mono pin_le (List.prefix_refl _)))
theorem ev_tuple {es : List Expr} {k : Nat} {p : Pos} {xs : List V} (h1 : EvL g sc n p es ρ σ xs σ₁) (hz : xs.length ≤ 16777216 := by simp) : Ev g sc n (.Tuple es k p) ρ σ (.tup xs) σ₁ := by
  refine .mk ?_
  intro env A R P δ s Q O hA I h
  refine wpAny_Tuple_spliced (h1.run env A R P δ s _ O hA I fun vs P₁ δ₁ hh₁ tk₁ le₁ pr₁ I₁ s₁ => ⟨by rw [s₁.length, sizeLine_eq]; exact hz, ?_⟩)
  exact h _ _ δ₁ (hh₁.push _) tk₁ (fun b o z => pin_le b o (le₁ b o z)) pr₁ (I₁.pushPin _) (.mkTup pin_at rfl rfl (s₁.mono pin_le (List.prefix_refl _)))
end
end Mine
end
section
open PySem PySem.W PyProof.Rows
set_option Elab.async false
namespace Mine

inductive Out where
  | nx (ρ : Loc) (σ : List MO)
  | ct (ρ : Loc) (σ : List MO)
  | bk (ρ : Loc) (σ : List MO)
  | rt (x : V) (σ : List MO)

noncomputable def Post (g : Glo) (R : RS) (P : PS) (δ : List Addr) (env : Env) (s : Shared) (Q : Flow → Shared → Prop) : Out → Prop
  | .nx ρ σ => ∀ P' δ' h' tk', (∀ b o, P b o → P' b o) → δ <+: δ' → Inv g R P' δ' env ρ σ h' → Q .next { s with heap := h', toks := tk' }
  | .ct ρ σ => ∀ P' δ' h' tk', (∀ b o, P b o → P' b o) → δ <+: δ' → Inv g R P' δ' env ρ σ h' → Q .cont { s with heap := h', toks := tk' }
  | .bk ρ σ => ∀ P' δ' h' tk', (∀ b o, P b o → P' b o) → δ <+: δ' → Inv g R P' δ' env ρ σ h' → Q .brk { s with heap := h', toks := tk' }
  | .rt x σ => ∀ v P' δ' h' tk', (∀ b o, P b o → P' b o) → δ <+: δ' → Inv g R P' δ' env [] σ h' → g.Sees P' δ' v x → Q (.ret v) { s with heap := h', toks := tk' }

/-- what statements do: they end in one of the outcomes that Φ takes -/
structure Ex (g : Glo) (sc : Scope) (n : Nat) (ss : List Stmt) (ρ : Loc) (σ : List MO) (Φ : Out → Prop) : Prop where
  run : ∀ (env : Env) (A : Around) (R : RS) (P : PS) (δ : List Addr) (s : Shared) (Q : Flow → Shared → Prop), EnvOk env sc → AOk A n R env → Inv g R P δ env ρ σ s.heap →
    (∀ o, Φ o → Post g R P δ env s Q o) → wpAny (model g.prog g.w) A (execs ss env) Q NoE s

section
variable {g : Glo} {sc : Scope} {n : Nat} {ρ : Loc} {σ σ₁ σ₂ σ₃ : List MO} {Φ : Out → Prop} {rest : List Stmt}

theorem Post.mono {R : RS} {P P' : PS} {δ δ' : List Addr} {env : Env} {s : Shared} {h' : Heap} {tk' : Nat} {Q : Flow → Shared → Prop} (le : ∀ b o, P b o → P' b o) (pr : δ <+: δ') : ∀ {o : Out}, Post g R P δ env s Q o → Post g R P' δ' env { s with heap := h', toks := tk' } Q o
  | .nx _ _, h => fun P₂ δ₂ h₂ tk₂ le₂ pr₂ I₂ => h P₂ δ₂ h₂ tk₂ (fun b o z => le₂ b o (le b o z)) (pr.trans pr₂) I₂
  | .ct _ _, h => fun P₂ δ₂ h₂ tk₂ le₂ pr₂ I₂ => h P₂ δ₂ h₂ tk₂ (fun b o z => le₂ b o (le b o z)) (pr.trans pr₂) I₂
  | .bk _ _, h => fun P₂ δ₂ h₂ tk₂ le₂ pr₂ I₂ => h P₂ δ₂ h₂ tk₂ (fun b o z => le₂ b o (le b o z)) (pr.trans pr₂) I₂
  | .rt _ _, h => fun v P₂ δ₂ h₂ tk₂ le₂ pr₂ I₂ s₂ => h v P₂ δ₂ h₂ tk₂ (fun b o z => le₂ b o (le b o z)) (pr.trans pr₂) I₂ s₂

theorem Ex.mono {ss : List Stmt} {Ψ : Out → Prop} (h : Ex g sc n ss ρ σ Φ) (hm : ∀ o, Φ o → Ψ o) : Ex g sc n ss ρ σ Ψ := .mk fun env A R P δ s Q O hA I k => h.run env A R P δ s Q O hA I fun o ho => k o (hm o ho)

theorem ex_nil (h : Φ (.nx ρ σ)) : Ex g sc n [] ρ σ Φ := .mk fun _ _ _ P δ s _ _ _ I k =>
  wpAny_execs_nil (k _ h P δ s.heap s.toks (fun _ _ z => z) (List.prefix_refl _) I)

/-- one statement that always goes on -/
structure Ex1 (g : Glo) (sc : Scope) (n : Nat) (st : Stmt) (ρ : Loc) (σ : List MO) (ρ' : Loc) (σ' : List MO) : Prop where
  run : ∀ (env : Env) (A : Around) (R : RS) (P : PS) (δ : List Addr) (s : Shared) (Q : Flow → Shared → Prop), EnvOk env sc → AOk A n R env → Inv g R P δ env ρ σ s.heap →
    (∀ P' δ' h' tk', (∀ b o, P b o → P' b o) → δ <+: δ' → Inv g R P' δ' env ρ' σ' h' → Q .next { s with heap := h', toks := tk' }) → wpAny (model g.prog g.w) A (exec st env) Q NoE s

theorem ex_step {st : Stmt} {ρ' : Loc} {σ' : List MO} (h1 : Ex1 g sc n st ρ σ ρ' σ') (h2 : Ex g sc n rest ρ' σ' Φ) : Ex g sc n (st :: rest) ρ σ Φ := .mk fun env A R P δ s Q O hA I k =>
  wpAny_execs_cons (h1.run env A R P δ s _ O hA I fun P' δ' h' tk' le pr I' => h2.run env A R P' δ' _ Q O hA I' fun o ho => (k o ho).mono le pr)

theorem ex1_assign {a : Str} {pa p : Pos} {e : Expr} {x : V} (h1 : Ev g sc n e ρ σ x σ₁) (ha : isVar sc a = true := by decide +kernel) (hs : ∀ env, swapsWith e (some (.Name a pa)) p.line env = pure false := by intro _; rfl) :
    Ex1 g sc n (.Assign [.Name a pa] e p) ρ σ ((a, x) :: ρ) σ₁ := .mk fun env A R P δ s Q O hA I k =>
  wpAny_Assign_Name (h1.run env A R P δ s _ O hA I fun v P₁ δ₁ hh₁ tk₁ le₁ pr₁ I₁ s₁ => wp_store (s := { s with heap := hh₁, toks := tk₁ }) O I₁ ha s₁ fun h' tk' I' => k P₁ δ₁ h' tk' le₁ pr₁ I') (hs env)
theorem ex1_aug {a : Str} {pa p : Pos} {op : Operator} {e : Expr} {x y z : V} (h1 : Ev g sc n e ρ σ x σ₁) (ho : Op2 g n σ₁ (inplaceOp op) y x z σ₂) (hy : ρ.lookup a = some y := by rfl) (ha : isVar sc a = true := by decide +kernel) (hr : canRead sc a = true := by decide +kernel) :
    Ex1 g sc n (.AugAssign (.Name a pa) op e p) ρ σ ((a, z) :: ρ) σ₂ := .mk fun env A R P δ s Q O hA I k =>
  wpAny_AugAssign_Name (wp_load O I hr hy fun u hu => h1.run env A R P δ s _ O hA I fun v P₁ δ₁ hh₁ tk₁ le₁ pr₁ I₁ s₁ =>
    ho.use (s := { s with heap := hh₁, toks := tk₁ }) hA I₁ (hu.mono le₁ pr₁) s₁ fun r P₂ δ₂ hh₂ tk₂ le₂ pr₂ I₂ s₂ =>
      wp_store (s := { s with heap := hh₂, toks := tk₂ }) O I₂ ha s₂ fun h' tk' I' => k P₂ δ₂ h' tk' (fun b o z => le₂ b o (le₁ b o z)) (pr₁.trans pr₂) I')
theorem ex1_expr {e : Expr} {p : Pos} {x : V} (h1 : Ev g sc n e ρ σ x σ₁) (hs : ∀ env, swapsWith e none p.line env = pure false := by intro _; rfl) : Ex1 g sc n (.Expr e p) ρ σ ρ σ₁ := .mk fun env A R P δ s Q O hA I k => by
  refine wpAny_Expr_any (h1.run env A R P δ s _ O hA I fun v P₁ δ₁ hh₁ tk₁ le₁ pr₁ I₁ s₁ => k P₁ δ₁ hh₁ tk₁ le₁ pr₁ I₁) ?_ (hs env)
  unfold interactive
  rw [O.scope, O.kind]; rfl

theorem ex_ret {e : Expr} {p : Pos} {x : V} (h1 : Ev g sc n e ρ σ x σ₁) (h : Φ (.rt x σ₁)) : Ex g sc n (.Return (some e) p :: rest) ρ σ Φ := .mk fun env A R P δ s Q O hA I k =>
  wpAny_execs_cons (wpAny_Return_some (h1.run env A R P δ s _ O hA I fun v P₁ δ₁ hh₁ tk₁ le₁ pr₁ I₁ s₁ => k _ h v P₁ δ₁ hh₁ tk₁ le₁ pr₁ (I₁.forget fun x y e => by cases e) s₁))
theorem ex_brk {p : Pos} (h : Φ (.bk ρ σ)) : Ex g sc n (.Break p :: rest) ρ σ Φ := .mk fun _ _ _ P δ s _ _ _ I k =>
  wpAny_execs_cons (wpAny_Break (k _ h P δ s.heap s.toks (fun _ _ z => z) (List.prefix_refl _) I))
theorem ex_cont {p : Pos} (h : Φ (.ct ρ σ)) : Ex g sc n (.Continue p :: rest) ρ σ Φ := .mk fun _ _ _ P δ s _ _ _ I k =>
  wpAny_execs_cons (wpAny_Continue (k _ h P δ s.heap s.toks (fun _ _ z => z) (List.prefix_refl _) I))

theorem execs_append (env : Env) : ∀ (a b : List Stmt), execs (a ++ b) env = (execs a env >>= fun f => match f with | .next => execs b env | f => pure f)
  | [], b => by rw [List.nil_append, execs_nil]; rfl
  | st :: a, b => by
    rw [List.cons_append, execs_cons, execs_cons, bind_assoc]
    congr 1
    funext f
    cases f with
    | next => exact execs_append env a b
    | _ => rfl

theorem execs_if (env : Env) (t : Expr) (body orelse rest : List Stmt) (p : Pos) :
    execs (.If t body orelse p :: rest) env = (standAt p >>= fun _ => isTrue t env (eval t env) >>= fun b => if b then execs (body ++ rest) env else execs (orelse ++ rest) env) := by
  rw [execs_cons, exec_If, bind_assoc]
  congr 1
  funext _
  rw [bind_assoc]
  congr 1
  funext b
  cases b with
  | true => exact (execs_append env body rest).symm
  | false => exact (execs_append env orelse rest).symm

theorem ex_if {t : Expr} {body orelse : List Stmt} {p : Pos} {b : Bool} (h1 : EvB g sc n t ρ σ b σ₁) (h2 : b = true → Ex g sc n (body ++ rest) ρ σ₁ Φ) (h3 : b = false → Ex g sc n (orelse ++ rest) ρ σ₁ Φ) :
    Ex g sc n (.If t body orelse p :: rest) ρ σ Φ := .mk fun env A R P δ s Q O hA I k => by
  rw [execs_if]
  refine wpAny_bind (wpAny_standAt (wpAny_bind (h1.run env A R P δ s _ O hA I fun c P₁ δ₁ hh₁ tk₁ le₁ pr₁ I₁ s₁ => ?_)))
  subst s₁
  cases c with
  | true => exact (h2 rfl).run env A R P₁ δ₁ _ Q O hA I₁ fun o ho => (k o ho).mono le₁ pr₁
  | false => exact (h3 rfl).run env A R P₁ δ₁ _ Q O hA I₁ fun o ho => (k o ho).mono le₁ pr₁
/-- an if whose ways meet again -/
theorem ex_ifj {t : Expr} {body orelse : List Stmt} {p : Pos} {b : Bool} {ρ' : Loc} {σ' : List MO} (h1 : EvB g sc n t ρ σ b σ₁) (h2 : b = true → Ex g sc n body ρ σ₁ (fun o => ∃ r, o = .nx r σ' ∧ ∀ x y, ρ'.lookup x = some y → r.lookup x = some y))
    (h3 : b = false → Ex g sc n orelse ρ σ₁ (fun o => ∃ r, o = .nx r σ' ∧ ∀ x y, ρ'.lookup x = some y → r.lookup x = some y)) (h : Ex g sc n rest ρ' σ' Φ) :
    Ex g sc n (.If t body orelse p :: rest) ρ σ Φ := .mk fun env A R P δ s Q O hA I k => by
  have fin : ∀ (ss : List Stmt) P₁ δ₁ hh₁ tk₁, (∀ b o, P b o → P₁ b o) → δ <+: δ₁ → Inv g R P₁ δ₁ env ρ σ₁ hh₁ → Ex g sc n ss ρ σ₁ (fun o => ∃ r, o = .nx r σ' ∧ ∀ x y, ρ'.lookup x = some y → r.lookup x = some y) →
      wpAny (model g.prog g.w) A (execs ss env) (fun f s' => match f with | .next => wpAny (model g.prog g.w) A (execs rest env) Q NoE s' | f => Q f s') NoE { s with heap := hh₁, toks := tk₁ } := by
    intro ss P₁ δ₁ hh₁ tk₁ le₁ pr₁ I₁ hx
    refine hx.run env A R P₁ δ₁ _ _ O hA I₁ ?_
    rintro o ⟨r, rfl, hr⟩ P₂ δ₂ hh₂ tk₂ le₂ pr₂ I₂
    exact h.run env A R P₂ δ₂ _ Q O hA (I₂.forget hr) fun o ho => (k o ho).mono (fun b o z => le₂ b o (le₁ b o z)) (pr₁.trans pr₂)
  refine wpAny_execs_cons (wpAny_If (h1.run env A R P δ s _ O hA I fun c P₁ δ₁ hh₁ tk₁ le₁ pr₁ I₁ s₁ => ?_))
  subst s₁
  cases c with
  | true => exact fin body P₁ δ₁ hh₁ tk₁ le₁ pr₁ I₁ (h2 rfl)
  | false => exact fin orelse P₁ δ₁ hh₁ tk₁ le₁ pr₁ I₁ (h3 rfl)
end
end Mine
end
section
open PySem PySem.W PyProof.Rows PySem.Calls
set_option Elab.async false
set_option linter.unusedVariables false
namespace Mine

/-- a def of the text, called: what comes back, what the cells then hold -/
noncomputable def Fn (g : Glo) (n : Nat) (f : Str) (args : List V) (σ : List MO) (x : V) (σ' : List MO) : Prop :=
  ∃ a o fd, g.mg f = some (.ref a) ∧ g.hb.get? a = some o ∧ o.data = .func fd ∧ Op g n σ args (fun vs => call (.ref a) vs) (fun P δ v => g.Sees P δ v x) σ'

theorem cellsFrom_some {x : Str} : ∀ (names : List (Str × NameKind)) (n : Nat) (acc : List (Str × Addr)), (acc.lookup x).isSome = true ∨ (x, NameKind.cell) ∈ names → ((cellsFrom n names acc).lookup x).isSome = true
  | [], _, _, h => h.elim id fun h => (nomatch h)
  | (y, k) :: r, n, acc, h => by
    unfold cellsFrom
    split
    · rename_i hk
      refine cellsFrom_some r _ _ ?_
      by_cases hxy : x = y
      · subst hxy; exact .inl (by simp)
      · have hb : (x == y) = false := by simpa using hxy
        rcases h with h | h
        · exact .inl (by rw [List.lookup_cons, hb]; exact h)
        · rcases List.mem_cons.mp h with e | h
          · exact absurd (Prod.mk.inj e).1 hxy
          · exact .inr h
    · rename_i hk
      refine cellsFrom_some r _ _ ?_
      rcases h with h | h
      · exact .inl h
      · rcases List.mem_cons.mp h with e | h
        · have := (Prod.mk.inj e).2
          exact absurd (by rw [← this]; rfl) hk
        · exact .inr h

theorem bindL_other {kindOf : Str → Option NameKind} {x : Str} : ∀ (binds : List (Str × Value)) (m : Str → Option Value), x ∉ binds.map (·.1) → bindL kindOf binds m x = m x
  | [], _, _ => rfl
  | (y, v) :: r, m, h => by
    simp only [List.map_cons, List.mem_cons, not_or] at h
    unfold bindL
    rw [bindL_other r _ h.2]
    split
    · simp [h.1]
    · rfl
theorem bindC_other {kindOf : Str → Option NameKind} {x : Str} : ∀ (binds : List (Str × Value)) (m : Str → Option Value), x ∉ binds.map (·.1) → bindC kindOf binds m x = m x
  | [], _, _ => rfl
  | (y, v) :: r, m, h => by
    simp only [List.map_cons, List.mem_cons, not_or] at h
    unfold bindC
    rw [bindC_other r _ h.2]
    split
    · rfl
    · simp [h.1]
theorem bindL_at {kindOf : Str → Option NameKind} {x : Str} {v : Value} : ∀ (binds : List (Str × Value)) (m : Str → Option Value), (binds.map (·.1)).Nodup → (x, v) ∈ binds → kindOf x = some .local → bindL kindOf binds m x = some v
  | (y, u) :: r, m, hn, h, hk => by
    rw [List.map_cons, List.nodup_cons] at hn
    unfold bindL
    rcases List.mem_cons.mp h with e | h
    · cases e
      rw [bindL_other r _ hn.1, if_pos hk]
      simp
    · exact bindL_at r _ hn.2 h hk
theorem bindC_at {kindOf : Str → Option NameKind} {x : Str} {v : Value} : ∀ (binds : List (Str × Value)) (m : Str → Option Value), (binds.map (·.1)).Nodup → (x, v) ∈ binds → kindOf x = some .cell → bindC kindOf binds m x = some v
  | (y, u) :: r, m, hn, h, hk => by
    rw [List.map_cons, List.nodup_cons] at hn
    unfold bindC
    rcases List.mem_cons.mp h with e | h
    · cases e
      rw [bindC_other r _ hn.1, if_neg (by rw [hk]; decide)]
      simp
    · exact bindC_at r _ hn.2 h hk

section
variable {g : Glo} {R : RS} {P P' : PS} {δ δ' : List Addr} {env env' : Env} {ρ : Loc} {σ σ' : List MO} {h h' : Heap}

/-- while a def runs, the caller's frame stays as it is -/
noncomputable def under (R : RS) (env : Env) (h : Heap) : RS := ⟨R.ex, fun b o => R.up b o ∨ (slot env b ∧ h.get? b = some o)⟩
theorem under_any {R : RS} {env : Env} {h : Heap} {b : Addr} {o : Obj} (x : (under R env h).any b o) : R.any b o ∨ (slot env b ∧ h.get? b = some o) := by
  rcases x with x | x | x
  · exact .inl (.inl x)
  · exact .inl (.inr x)
  · exact .inr x
theorem any_under {R : RS} {env : Env} {h : Heap} {b : Addr} {o : Obj} (x : R.any b o) : (under R env h).any b o := by
  rcases x with x | x
  · exact .inl x
  · exact .inr (.inl x)
theorem slot_under {R : RS} {env : Env} {h : Heap} {b : Addr} {o : Obj} (x : slot env b) (e : h.get? b = some o) : (under R env h).any b o := .inr (.inr ⟨x, e⟩)

theorem Inv.back (I : Inv g R P δ env ρ σ h) (J : Inv g (under R env h) P' δ' env' [] σ' h') (le : ∀ b o, P b o → P' b o) (pr : δ <+: δ') : Inv g R P' δ' env ρ σ' h' where
  keepR := J.keepR
  keepU := fun b o r => J.keepU b o (.inl r)
  part := I.part
  keepP := J.keepP
  base := I.base
  sep := fun b o o' x y => J.sep b o o' x (any_under y)
  loc := by
    obtain ⟨m, ⟨o, es, ep, ho, r⟩, hm⟩ := I.loc
    obtain ⟨sl, hsl⟩ := J.keepU _ _ (.inr ⟨.inl rfl, ho⟩)
    refine ⟨m, ⟨_, es, ep, hsl, r⟩, fun x y e => ?_⟩
    obtain ⟨v, hs, hl⟩ := hm x y e
    refine ⟨v, hs.mono le pr, ?_⟩
    rcases hl with l | ⟨h1, c, h2, o', ho', hd⟩ | l
    · exact .inl l
    · obtain ⟨sl, hsl⟩ := J.keepU _ _ (.inr ⟨.inr ⟨x, h1, h2⟩, ho'⟩)
      exact .inr (.inl ⟨h1, c, h2, _, hsl, hd⟩)
    · exact .inr (.inr l)
  cel := fun x hx => by
    obtain ⟨c, ov, hc, o, ho, hd⟩ := I.cel x hx
    obtain ⟨sl, hsl⟩ := J.keepU _ _ (.inr ⟨.inr ⟨x, hx, hc⟩, ho⟩)
    exact ⟨c, ov, hc, _, hsl, hd⟩
  one := I.one
  nloc := I.nloc
  offP := fun a o hs x => by
    obtain ⟨q, hq⟩ := I.slot_lt hs
    obtain ⟨z, hz⟩ := J.sep a o q x (slot_under hs hq)
    exact I.offR _ _ hs (.inl (I.base _ _ hz))
  offR := I.offR
  offD := fun a hs x => by
    obtain ⟨q, hq⟩ := I.slot_lt hs
    exact J.dR a q x (slot_under hs hq)
  dP := J.dP
  dR := fun a o x r => J.dR a o x (any_under r)
  dN := J.dN
  len := J.len
  objs := J.objs

/-- what a call binds -/
structure Binds (g : Glo) (P : PS) (δ : List Addr) (binds : List (Str × Value)) (ρ : Loc) : Prop where
  nodup : (binds.map (·.1)).Nodup
  sees : ∀ x y, ρ.lookup x = some y → ∃ v, (x, v) ∈ binds ∧ g.Sees P δ v y

theorem isVar_kind {sc : Scope} {x : Str} (h : isVar sc x = true) : sc.names.lookup x = some .local ∨ sc.names.lookup x = some .cell := by
  unfold isVar at h
  revert h
  cases sc.names.lookup x with
  | none => intro h; cases h
  | some k => cases k <;> intro h <;> first | exact .inl rfl | exact .inr rfl | cases h

theorem Inv.enter {L : Addr} {s₀ s : Shared} {sc : Scope} {binds : List (Str × Value)} {ρ' : Loc} (I : Inv g R P δ env ρ σ s₀.heap) (he : env'.scope = sc) (hL : env'.locals = L) (hc : env'.cells = cellsFrom (s₀.heap.objs.size + 1) sc.names [])
    (hl : L = s₀.heap.objs.size)
    (x : InCallC s₀ L (bindL env'.kindOf binds fun _ => none) env'.cells (bindC env'.kindOf binds fun _ => none) s) (hb : Binds g P δ binds ρ') (hv : ∀ b ∈ binds, isVar sc b.1 = true) :
    Inv g (under R env s₀.heap) P δ env' ρ' σ s.heap := by
  have keep := x.toInCall.keep
  have I' := I.grows keep
  have new : ∀ a, slot env' a → s₀.heap.get? a = none := by
    intro a ha
    cases e : s₀.heap.get? a with
    | none => rfl
    | some o =>
      have hlt := Heap.lt_size e
      rcases ha with rfl | ⟨z, hz, hzc⟩
      · rw [hL, hl] at hlt; exact absurd hlt (Nat.lt_irrefl _)
      · have := x.above z a (mem_of_lookup hzc)
        rw [hl] at this
        exact absurd (Nat.lt_trans hlt this) (Nat.lt_irrefl _)
  have cel : ∀ z, env'.kindOf z = some .cell → ∃ c, env'.cells.lookup z = some c := by
    intro z hz
    have : (env'.cells.lookup z).isSome = true := by
      rw [hc]
      refine cellsFrom_some _ _ _ (.inr (mem_of_lookup ?_))
      rw [← he]; exact hz
    exact Option.isSome_iff_exists.mp this
  refine
  { keepR := fun b o r => keep _ _ (I.keepR b o r), keepU := ?_, part := ?_, keepP := fun b o p => keep _ _ (I.keepP b o p), base := I.base, sep := ?_, loc := ?_, cel := ?_, one := ?_, nloc := ?_, offP := ?_, offR := ?_, offD := ?_, dP := I.dP, dR := ?_, dN := I.dN, len := I.len, objs := I'.objs }
  · rintro b o (r | ⟨hs, e⟩)
    · obtain ⟨sl, e⟩ := I.keepU b o r; exact ⟨sl, keep _ _ e⟩
    · exact ⟨o.slots, keep _ _ e⟩
  · rintro b o o' r (u | ⟨hs, e⟩)
    · exact I.part b o o' r u
    · exact I.offR b o hs (.inl r)
  · intro b o o' p q
    rcases under_any q with r | ⟨hs, e⟩
    · exact I.sep b o o' p r
    · exact absurd p (I.offP b o hs)
  · refine ⟨_, by rw [hL]; exact x.toInCall.ns, fun z y hz => ?_⟩
    obtain ⟨v, hm, hsv⟩ := hb.sees z y hz
    refine ⟨v, hsv, ?_⟩
    rcases isVar_kind (hv _ hm) with hk | hk
    · have hk' : env'.kindOf z = some .local := by show env'.scope.names.lookup z = _; rw [he]; exact hk
      exact .inl ⟨hk', bindL_at _ _ hb.nodup hm hk'⟩
    · have hk' : env'.kindOf z = some .cell := by show env'.scope.names.lookup z = _; rw [he]; exact hk
      obtain ⟨c, hcz⟩ := cel z hk'
      refine .inr (.inl ⟨hk', c, hcz, ?_⟩)
      have := x.cell z c hcz
      rwa [bindC_at _ _ hb.nodup hm hk'] at this
  · intro z hz
    obtain ⟨c, hcz⟩ := cel z hz
    exact ⟨c, _, hcz, x.cell z c hcz⟩
  · intro z y c hz hy hzc hyc
    exact name_of_addr x.apart (mem_of_lookup hzc) (mem_of_lookup hyc)
  · intro z hz e
    have := x.above z _ (mem_of_lookup e)
    rw [hL] at this
    exact Nat.lt_irrefl _ this
  · intro a o ha p
    have := I.keepP _ _ p
    rw [new a ha] at this; cases this
  · intro a o ha q
    rcases under_any q with (r | r) | ⟨hs, e⟩
    · have := I.keepR _ _ r
      rw [new a ha] at this; cases this
    · obtain ⟨sl, this⟩ := I.keepU _ _ r
      rw [new a ha] at this; cases this
    · rw [new a ha] at e; cases e
  · intro a ha hd
    obtain ⟨o, ho⟩ := I.cell_lt hd
    rw [new a ha] at ho; cases ho
  · intro a o hd q
    rcases under_any q with r | ⟨hs, e⟩
    · exact I.dR a o hd r
    · exact I.offD a hs hd
end

section
variable {g : Glo} {n : Nat} {σ σ' : List MO}
theorem AOk.less {A : Around} {n m : Nat} {R : RS} {env : Env} (h : AOk A n R env) (hm : m ≤ n) : AOk A m R env := ⟨h.handled, by have := h.depth; omega, by have := h.units; omega, h.stack⟩
theorem AOk.deeper {A : Around} {n : Nat} {R : RS} {P : PS} {δ : List Addr} {ρ : Loc} {σ : List MO} {h : Heap} {env env' : Env} (a : AOk A (n + 1) R env) (I : Inv g R P δ env ρ σ h) (hk : env'.scope.kind ≠ .module) (hf : env'.frame = some env'.locals) : AOk (A.deeper env') n (under R env h) env' where
  handled := a.handled
  depth := by have := a.depth; show A.depth + 1 + n ≤ 900; omega
  units := by have := a.units; show A.units + 3 + 20 * n ≤ 9000; omega
  stack := by
    obtain ⟨l, _, e1, _, _, _, e2⟩ := a.stack
    refine ⟨env' :: l, _, by show A.frames.map (env' :: ·) = _; rw [e1]; rfl, hf, .inl rfl, ⟨env', l, rfl, hf⟩, fun e he => ?_⟩
    rcases List.mem_cons.mp he with rfl | he
    · exact ⟨hk, _, hf, .inl rfl⟩
    · obtain ⟨k, L, f1, f2⟩ := e2 e he
      refine ⟨k, L, f1, .inr ?_⟩
      rcases f2 with rfl | ⟨o, f2, f3⟩
      · obtain ⟨m, ⟨o, es, ep, ho, hd, _⟩, _⟩ := I.loc
        exact ⟨o, .inr ⟨.inl rfl, ho⟩, fun vs c => by rw [hd] at c; cases c⟩
      · exact ⟨o, .inl f2, f3⟩
theorem AOk.in1 {A : Around} {n : Nat} {R : RS} {env : Env} (h : AOk A (n + 1) R env) : AOk A.in1 n R env := ⟨h.handled, by have := h.depth; show A.depth + n ≤ 900; omega, by have := h.units; show A.units + 1 + 20 * n ≤ 9000; omega, h.stack⟩
theorem AOk.room {A : Around} {n : Nat} {R : RS} {env : Env} (h : AOk A n R env) : A.depth < recursionLimit := by have := h.depth; show A.depth < 1000; omega
theorem zip_sees {P : PS} {δ : List Addr} {z : Str} {y : V} (ρ : Loc) {vs : List Value} (h : g.SeesL P δ vs (ρ.map (·.2))) (e : ρ.lookup z = some y) : ∃ v, (z, v) ∈ (ρ.map (·.1)).zip vs ∧ g.Sees P δ v y := by
  obtain ⟨i, h1, _⟩ := lookup_at e
  obtain ⟨v, hv, hs⟩ := h.get (i := i) (x := y) (by rw [List.getElem?_map, h1]; rfl)
  refine ⟨v, List.mem_iff_getElem?.mpr ⟨i, ?_⟩, hs⟩
  rw [List.getElem?_zip_eq_some]
  exact ⟨by rw [List.getElem?_map, h1]; rfl, hv⟩

/-- a def is called: what it binds, what its body does -/
theorem wp_call_def {d : DefRec} {a : Addr} {o : Obj} {pm : Value} {code : Value} {doc : Value} {vs : List Value} {ρ ρ' : Loc} {A : Around} {R : RS} {P : PS} {δ : List Addr} {env : Env} {s : Shared} {Q : Value → Shared → Prop} {E : Value → Shared → Prop}
    (h2 : g.hb.get? a = some o) (h3 : o.data = .func (docDef d.name d.params d.body d.scope pm code doc)) (h4 : g.hb.CodeRec (docDef d.name d.params d.body d.scope pm code doc).code (docDef d.name d.params d.body d.scope pm code doc).qualname)
    (hA : AOk A (n + 1) R env) (I : Inv g R P δ env ρ σ s.heap)
    (hbind : wpAny (model g.prog g.w) A.in1 (bindArgs (docDef d.name d.params d.body d.scope pm code doc) ⟨vs, []⟩) (fun binds s₁ => ∃ P₁ h₁ tk₁, s₁ = { s with heap := h₁, toks := tk₁ } ∧ (∀ b o, P b o → P₁ b o) ∧ Inv g R P₁ δ env ρ σ h₁ ∧ Binds g P₁ δ binds ρ' ∧ ∀ b ∈ binds, isVar d.scope b.1 = true) NoE s)
    (hrun : ∀ (env' : Env) (P₁ : PS) (h₁ h₂ : Heap) (tk₂ : Nat), (∀ b o, P b o → P₁ b o) → Inv g R P₁ δ env ρ σ h₁ → (∀ b o, h₁.get? b = some o → h₂.get? b = some o) → Inv g (under R env h₁) P₁ δ env' ρ' σ h₂ → EnvOk env' d.scope → AOk (A.deeper env') n (under R env h₁) env' → env'.frame = some env'.locals →
      wpAny (model g.prog g.w) (A.deeper env') (execs d.body env') (fun f s' => Q (match f with | .ret v => v | _ => .none) s') (fun e s' => wpAny (model g.prog g.w) (A.deeper env') (leaving env' e) (fun _ s'' => E e s'') (fun e' s'' => E e' s'') s') { s with heap := h₂, toks := tk₂ })
    (hco : d.scope.isCoroutine = false) (hgen : d.scope.isGenerator = false) (hk : d.scope.kind = .function) : wpAny (model g.prog g.w) A (call (.ref a) vs) Q E s := by
  have keepB : ∀ b o, g.hb.get? b = some o → s.heap.get? b = some o := fun b o e => I.keepR _ _ (I.base _ _ e)
  refine wpAny_call (codeAny_call_function hA.room (keepB _ _ h2) h3 hco hgen rfl (h4.keeps keepB) ?_)
  refine wpAny_mono hbind (fun binds s₁ hb => ?_) fun _ _ e => e.elim
  obtain ⟨P₁, h₁, tk₁, rfl, le, I₁, hbs, hvar⟩ := hb
  refine wpAny_newFunctionEnv_cells hk (fun b hb => ?_) (fun env' he s' x => ?_)
  · rcases isVar_kind (hvar b hb) with hk | hk
    · exact .inl hk
    · exact .inr ⟨hk, cellsFrom_some _ _ _ (.inr (mem_of_lookup hk))⟩
  · subst he
    refine ⟨g.top.nolimit.keeps fun b o e => x.toInCall.keep b o (I₁.keepR _ _ (I₁.base _ _ e)), codeAny_func ?_⟩
    have J := Inv.enter (sc := d.scope) (L := h₁.objs.size) (s₀ := { s with heap := h₁, toks := tk₁ }) I₁ rfl rfl rfl rfl x hbs hvar
    have keep := x.toInCall.keep
    obtain ⟨hh₂, tk₂, rfl⟩ := x.toInCall.same
    exact hrun _ P₁ h₁ hh₂ tk₂ le I₁ keep J ⟨rfl, hk, rfl, rfl⟩ (hA.deeper I₁ (by show d.scope.kind ≠ _; rw [hk]; decide) rfl) rfl

/-- a def, by what its body does -/
theorem fn_gen {d : DefRec} {args : List V} {x : V} {ρ' : Loc} (hd : d ∈ recsOf g.p)
    (hbind : ∀ pm cd doc (ρ : Loc) (A : Around) (R : RS) (P : PS) (δ : List Addr) (env : Env) (s : Shared) (vs : List Value), Inv g R P δ env ρ σ s.heap → g.SeesL P δ vs args →
      wpAny (model g.prog g.w) A (bindArgs (docDef d.name d.params d.body d.scope pm cd doc) ⟨vs, []⟩) (fun binds s₁ => ∃ P₁ h₁ tk₁, s₁ = { s with heap := h₁, toks := tk₁ } ∧ (∀ b o, P b o → P₁ b o) ∧ Inv g R P₁ δ env ρ σ h₁ ∧ Binds g P₁ δ binds ρ' ∧ ∀ b ∈ binds, isVar d.scope b.1 = true) NoE s)
    (hbody : Ex g d.scope n d.body ρ' σ (fun o => o = .rt x σ' ∨ (x = .none ∧ ∃ r, o = .nx r σ')))
    (hco : d.scope.isCoroutine = false := by rfl) (hgen : d.scope.isGenerator = false := by rfl) (hk : d.scope.kind = .function := by rfl) : Fn g (n + 1) d.name args σ x σ' := by
  obtain ⟨a, o, pm, code, doc, h1, h2, h3, h4⟩ := g.top.fn d hd
  refine ⟨a, o, _, h1, h2, h3, ?_⟩
  intro env ρ A R P δ s Q vs hA I hvs h
  refine wp_call_def h2 h3 h4 hA I (hbind pm code doc ρ A.in1 R P δ env s vs I hvs) (fun env' P₁ h₁ h₂ tk₂ le I₁ keep J O' A' hf => ?_) hco hgen hk
  refine wpAny_mono (hbody.run env' _ _ P₁ δ { s with heap := h₂, toks := tk₂ } (fun f s' => Q (match f with | .ret v => v | _ => .none) s') O' A' J ?_) (fun _ _ z => z) fun _ _ e => e.elim
  rintro o (rfl | ⟨rfl, r, rfl⟩)
  · intro v P' δ' h' tk' le' pr' J' hs
    exact h v P' δ' h' tk' (fun b o z => le' b o (le b o z)) pr' (I₁.back J' le' pr') hs
  · intro P' δ' h' tk' le' pr' J'
    exact h .none P' δ' h' tk' (fun b o z => le' b o (le b o z)) pr' (I₁.back (J'.forget fun x y e => by cases e) le' pr') .none
/-- arguments bound one by one -/
theorem bind_plain {d : DefRec} {args : List V} (names : List Str) (hbind : ∀ pm cd doc vs, vs.length = args.length → bindArgs (docDef d.name d.params d.body d.scope pm cd doc) ⟨vs, []⟩ = pure (names.zip vs)) (hl : names.length = args.length) (hn : names.Nodup) (hv : names.all (isVar d.scope) = true) (pm cd doc) (ρ : Loc) (A : Around) (R : RS) (P : PS) (δ : List Addr) (env : Env) (s : Shared) (vs : List Value) (I : Inv g R P δ env ρ σ s.heap) (hvs : g.SeesL P δ vs args) :
    wpAny (model g.prog g.w) A (bindArgs (docDef d.name d.params d.body d.scope pm cd doc) ⟨vs, []⟩) (fun binds s₁ => ∃ P₁ h₁ tk₁, s₁ = { s with heap := h₁, toks := tk₁ } ∧ (∀ b o, P b o → P₁ b o) ∧ Inv g R P₁ δ env ρ σ h₁ ∧ Binds g P₁ δ binds (names.zip args) ∧ ∀ b ∈ binds, isVar d.scope b.1 = true) NoE s := by
  have hlen := hvs.length
  rw [hbind pm cd doc vs hlen]
  have e1 : (names.zip vs).map (·.1) = names := List.map_fst_zip (by omega)
  have e2 : (names.zip args).map (·.1) = names := List.map_fst_zip (by omega)
  have e3 : (names.zip args).map (·.2) = args := List.map_snd_zip (by omega)
  refine wpAny_pure ⟨P, s.heap, s.toks, rfl, fun _ _ z => z, I, ⟨by rw [e1]; exact hn, fun z y e => ?_⟩, fun b hb => List.all_eq_true.mp hv b.1 (by rw [← e1]; exact List.mem_map_of_mem hb)⟩
  have := zip_sees (names.zip args) (by rw [e3]; exact hvs) e
  rwa [e2] at this
end
end Mine
end
section
open PySem PySem.W PyProof.Rows PySem.Calls
set_option Elab.async false
set_option linter.unusedVariables false
namespace Mine

/-- the names of the builtins that the text reads: it binds none of them -/
noncomputable def bltNames : List Str := ["type", "issubclass", "isinstance", "str", "bytes", "len", "min", "max", "abs", "chr", "sum", "tuple", "map", "enumerate", "zip", "ValueError", "TypeError", "AttributeError", "BytesWarning"]

structure Has (g : Glo) (pr : Program) : Prop where
  defs : ∀ (i : Nat) (name : Str) (params : Arguments) (body : List Stmt) (decs : List Expr) (ret : Option Expr) (tps : List TypeParam) (scope : Scope) (ts : Option Scope) (bind : Str) (pos : Pos),
    pr.main.body[i]? = some (.FunctionDef name params body decs ret tps scope ts bind pos) → 9 ≤ i → (⟨name, params, body, scope, pos⟩ : DefRec) ∈ recsOf g.p
  blt : ∀ x ∈ bltNames, g.mg x = none

noncomputable def isGlob (sc : Scope) (x : Str) : Bool := sc.names.lookup x == some .globalImplicit && !(x == ("__debug__" : Str))

section
variable {g : Glo} {sc : Scope} {n : Nat} {ρ : Loc} {σ σ₁ σ₂ σ₃ : List MO} {pr : Program}

theorem wp_global {M : Model} {A : Around} {E : Value → Shared → Prop} {env : Env} {R : RS} {P : PS} {δ : List Addr} {s : Shared} {x : Str} {p : Pos} {v : Value} {Q : Value → Shared → Prop} (O : EnvOk env sc) (I : Inv g R P δ env ρ σ s.heap)
    (hx : isGlob sc x = true) (hv : g.mg x = some v) (h : Q v s) : wpAny M A (eval (.Name x p) env) Q E s := by
  unfold isGlob at hx
  obtain ⟨h1, h2⟩ := Bool.and_eq_true_iff.mp hx
  refine Name_function_global (by rw [O.scope]; exact O.kind) (by show env.scope.names.lookup x = _; rw [O.scope]; exact beq_iff_eq.mp h1) (loadGlobal_global (by rw [O.globals]; exact g.top.g.keeps fun b o e => I.keepR _ _ (I.base _ _ e)) hv h) (by simpa using h2)
theorem wp_builtin {M : Model} {A : Around} {E : Value → Shared → Prop} {env : Env} {R : RS} {P : PS} {δ : List Addr} {s : Shared} {x : Str} {p : Pos} {v : Value} {Q : Value → Shared → Prop} (O : EnvOk env sc) (I : Inv g R P δ env ρ σ s.heap)
    (hx : isGlob sc x = true) (hm : g.mg x = none) (hv : bootBuiltins x = some v) (hn : x ≠ "__name__") (h : Q v s) : wpAny M A (eval (.Name x p) env) Q E s := by
  unfold isGlob at hx
  obtain ⟨h1, h2⟩ := Bool.and_eq_true_iff.mp hx
  have keep : ∀ b o, g.hb.get? b = some o → s.heap.get? b = some o := fun b o e => I.keepR _ _ (I.base _ _ e)
  refine Name_function_global (by rw [O.scope]; exact O.kind) (by show env.scope.names.lookup x = _; rw [O.scope]; exact beq_iff_eq.mp h1)
    (loadGlobal_builtin (by rw [O.globals]; exact g.top.g.keeps keep) hm (by rw [O.builtins]; exact g.top.b.keeps keep) ((g.top.builtins x hn).trans hv) h) (by simpa using h2)

theorem ev_type {x : Str} {p : Pos} {T : String} (hx : isGlob sc x = true := by decide +kernel) (hm : g.mg x = none := by first | assumption | exact (‹Has g _›).blt _ (by decide +kernel)) (hv : bootBuiltins x = some (.type T) := by decide +kernel) (hn : x ≠ "__name__" := by decide +kernel) : Ev g sc n (.Name x p) ρ σ (.ty T) σ :=
  .mk fun env A R P δ s Q O hA I h => wp_builtin O I hx hm hv hn (stay s.toks I h (.ty T))
theorem ev_fn {f : Str} {p : Pos} {a : Addr} (hx : isGlob sc f = true) (hf : g.mg f = some (.ref a)) : Ev g sc n (.Name f p) ρ σ (.fn f) σ :=
  .mk fun env A R P δ s Q O hA I h => wp_global O I hx hf (stay s.toks I h (.fn _ _ hf))

-- lists of arguments
noncomputable def isStar : Expr → Bool
  | .Starred .. => true
  | _ => false
theorem starEach_cons {e : Expr} (h : isStar e = false) (es : List Expr) (env : Env) : starEach (e :: es) env = (false, eval e env) :: starEach es env := by
  cases e <;> first | rfl | cases h

theorem evl_nil {pos : Pos} : EvL g sc n pos [] ρ σ [] σ := .mk fun env A R P δ s Q O hA I h => spliced_nil (stay s.toks I h .nil)
theorem evl_cons {pos : Pos} {e : Expr} {es : List Expr} {x : V} {xs : List V} (h1 : Ev g sc n e ρ σ x σ₁) (h2 : EvL g sc n pos es ρ σ₁ xs σ₂) (he : isStar e = false := by rfl) : EvL g sc n pos (e :: es) ρ σ (x :: xs) σ₂ := by
  refine .mk ?_
  intro env A R P δ s Q O hA I h
  show wpAny _ A (spliced (backTo pos (starEach (e :: es) env))) Q NoE s
  rw [starEach_cons he]
  refine spliced_cons (h1.run env A R P δ s _ O hA I fun v P₁ δ₁ hh₁ tk₁ le₁ pr₁ I₁ s₁ => ?_)
  exact h2.run env A R P₁ δ₁ _ _ O hA I₁ fun vs P₂ δ₂ hh₂ tk₂ le₂ pr₂ I₂ s₂ => h (v :: vs) P₂ δ₂ hh₂ tk₂ (fun b o z => le₂ b o (le₁ b o z)) (pr₁.trans pr₂) I₂ (.cons (s₁.mono le₂ pr₂) s₂)

/-- a value's items, handed on one by one -/
noncomputable def Unrolls (M : Model) (A : Around) (v : Value) (K : List Value → Shared → Prop) (s : Shared) : Prop := wpAny M A (notIterableAtAll v) (fun no s' => no = false ∧ wpAny M A (collect v) K NoE s') NoE s
theorem spliced_unroll {M : Model} {A : Around} {s : Shared} {x : Sem Value} {l : List (Bool × Sem Value)} {Q : List Value → Shared → Prop}
    (h : wpAny M A x (fun v s₁ => Unrolls M A v (fun us s₂ => wpAny M A (spliced l) (fun vs s₃ => Q (us ++ vs) s₃) NoE s₂) s₁) NoE s) : wpAny M A (spliced ((true, x) :: l)) Q NoE s := by
  have last : ∀ (us : List Value) (s₂ : Shared), wpAny M A (spliced l) (fun vs s₃ => Q (us ++ vs) s₃) NoE s₂ → wpAny M A (do return us ++ (← holding us (spliced l))) Q NoE s₂ := fun us s₂ h₂ =>
    wpAny_bind (wpAny_holding (wpAny_mono h₂ (fun vs s₃ h₃ => wpAny_pure h₃) fun _ _ e => e))
  rw [spliced]
  refine wpAny_bind (wpAny_mono h (fun v s₁ h₁ => ?_) fun _ _ e => e)
  have h₁ : wpAny M A (notIterableAtAll v) _ NoE s₁ := h₁
  simp only [if_true]
  refine wpAny_bind (wpAny_mono h₁ (fun no s' h' => ?_) fun _ _ e => e)
  obtain ⟨rfl, h'⟩ := h'
  simp only [Bool.false_eq_true, if_false]
  exact wpAny_bind (wpAny_mono h' (fun us s₂ h₂ => last us s₂ h₂) fun _ _ e => e)

theorem wp_star {A : Around} {env : Env} {R : RS} {P : PS} {δ : List Addr} {s : Shared} {v : Value} {xs : List V} {Q : List Value → Shared → Prop} (I : Inv g R P δ env ρ σ s.heap) (hv : g.Sees P δ v (.list xs) ∨ g.Sees P δ v (.tup xs)) (hz : xs.length ≤ 16777216)
    (h : ∀ vs h', g.SeesL P δ vs xs → Inv g R P δ env ρ σ h' → Q vs { s with heap := h' }) : Unrolls (model g.prog g.w) A v Q s := by
  obtain ⟨a, o, vs, k, T, rfl, hp, hc, hd, hs, hT⟩ : ∃ a o vs k T, v = .ref a ∧ P a o ∧ o.cls = .type T ∧ o.data = .seq (vs : List Value).toArray k ∧ g.SeesL P δ vs xs ∧ (T = "list" ∨ T = "tuple") := by
    rcases hv with hv | hv
    · obtain ⟨a, o, vs, k, e, h1, h2, h3, h4⟩ := hv.tells
      exact ⟨a, o, vs, k, _, e, h1, h2, h3, h4, .inl rfl⟩
    · obtain ⟨a, o, vs, k, e, h1, h2, h3, h4⟩ := hv.tells
      exact ⟨a, o, vs, k, _, e, h1, h2, h3, h4, .inr rfl⟩
  have D := I.keepP _ _ hp
  have hT' : s.TypeIs (.ref a) T := ⟨o, D, hc⟩
  have z : wpAny (model g.prog g.w) A (collect (.ref a)) Q NoE s := by
    refine wpAny_collect_seq (items := vs.toArray) a hT D hc hd (fun h' hk => ?_) (by rw [List.size_toArray, hs.length, sizeLine_eq]; exact hz)
    exact h _ h' hs (I.grows hk)
  unfold Unrolls notIterableAtAll
  rcases hT with rfl | rfl
  · exact wpAny_bind (wpAny_specialOf hT' PySem.F.slot_list_iter.lookup (wpAny_pure ⟨rfl, z⟩))
  · exact wpAny_bind (wpAny_specialOf hT' PySem.F.slot_tuple_iter.lookup (wpAny_pure ⟨rfl, z⟩))

theorem evl_star {pos p : Pos} {e : Expr} {es : List Expr} {xs ys : List V} (h1 : Ev g sc n e ρ σ (.list xs) σ₁ ∨ Ev g sc n e ρ σ (.tup xs) σ₁) (hz : xs.length ≤ 16777216) (h2 : EvL g sc n pos es ρ σ₁ ys σ₂) : EvL g sc n pos (.Starred e p :: es) ρ σ (xs ++ ys) σ₂ := by
  refine .mk ?_
  intro env A R P δ s Q O hA I h
  have go : ∀ v P₁ δ₁ hh₁ tk₁, (∀ b o, P b o → P₁ b o) → δ <+: δ₁ → Inv g R P₁ δ₁ env ρ σ₁ hh₁ → (g.Sees P₁ δ₁ v (.list xs) ∨ g.Sees P₁ δ₁ v (.tup xs)) →
      Unrolls (model g.prog g.w) A v (fun here s₂ => wpAny (model g.prog g.w) A (spliced (backTo pos (starEach es env))) (fun vs s₃ => Q (here ++ vs) s₃) NoE s₂) { s with heap := hh₁, toks := tk₁ } := by
    intro v P₁ δ₁ hh₁ tk₁ le₁ pr₁ I₁ s₁
    refine wp_star (s := { s with heap := hh₁, toks := tk₁ }) I₁ s₁ hz fun vs h' hs I' => ?_
    exact h2.run env A R P₁ δ₁ _ _ O hA I' fun us P₂ δ₂ hh₂ tk₂ le₂ pr₂ I₂ s₂ => h (vs ++ us) P₂ δ₂ hh₂ tk₂ (fun b o z => le₂ b o (le₁ b o z)) (pr₁.trans pr₂) I₂ ((hs.mono le₂ pr₂).append s₂)
  show wpAny _ A (spliced ((true, eval e env >>= fun v => standAt pos >>= fun _ => pure v) :: backTo pos (starEach es env))) Q NoE s
  refine spliced_unroll (wpAny_bind ?_)
  rcases h1 with h1 | h1
  · exact h1.run env A R P δ s _ O hA I fun v P₁ δ₁ hh₁ tk₁ le₁ pr₁ I₁ s₁ => wpAny_bind (wpAny_standAt (wpAny_pure (go v P₁ δ₁ hh₁ tk₁ le₁ pr₁ I₁ (.inl s₁))))
  · exact h1.run env A R P δ s _ O hA I fun v P₁ δ₁ hh₁ tk₁ le₁ pr₁ I₁ s₁ => wpAny_bind (wpAny_standAt (wpAny_pure (go v P₁ δ₁ hh₁ tk₁ le₁ pr₁ I₁ (.inr s₁))))

noncomputable def firstPlain : List Expr → Bool
  | [] => true
  | e :: _ => !isStar e
theorem evalArgs_first {M : Model} {A : Around} {E : Value → Shared → Prop} {s : Shared} {env : Env} {f : Value} {pos : Pos} {args : List Expr} {Q : Args → Shared → Prop} (hf : firstPlain args = true)
    (h : wpAny M A (spliced (backTo pos (starEach args env))) (fun vs s' => Q ⟨vs, []⟩ s') E s) : wpAny M A (evalArgs f true (backTo pos (starEach args env)) []) Q E s := by
  cases args with
  | nil =>
    unfold evalArgs
    show wpAny M A (spliced [] >>= _) Q E s
    refine wpAny_bind (wpAny_mono h (fun vs s' h' => ?_) fun _ _ x => x)
    refine wpAny_holding ?_
    exact wpAny_bind (wpAny_pure (wpAny_bind (wpAny_pure (wpAny_pure h'))))
  | cons e es =>
    have he : isStar e = false := by simpa [firstPlain] using hf
    rw [starEach_cons he] at h ⊢
    exact evalArgs_plain h

/-- a def of the text is called -/
theorem ev_call {f : Str} {pf pos : Pos} {args : List Expr} {xs : List V} {x : V} (m : Nat) (h1 : EvL g sc n pos args ρ σ xs σ₁) (h2 : Fn g m f xs σ₁ x σ₂) (hf : isGlob sc f = true := by decide +kernel) (hm : m ≤ n := by decide) (hp : firstPlain args = true := by rfl) :
    Ev g sc n (.Call (.Name f pf) args [] pos) ρ σ x σ₂ := by
  refine .mk ?_
  intro env A R P δ s Q O hA I h
  obtain ⟨a, o, fd, e1, e2, e3, e4⟩ := h2
  refine wpAny_Call_NameR (wp_global O I hf e1 (callWith_function (o := o) (fd := fd) (evalArgs_first hp ?_)))
  refine h1.run env A R P δ s _ O hA I fun vs P₁ δ₁ hh₁ tk₁ le₁ pr₁ I₁ s₁ => ⟨⟨I₁.keepR _ _ (I₁.base _ _ e2), e3⟩, ?_⟩
  exact e4 env ρ A R P₁ δ₁ _ Q vs (hA.less hm) I₁ s₁ fun v P₂ δ₂ hh₂ tk₂ le₂ pr₂ I₂ s₂ => h v P₂ δ₂ hh₂ tk₂ (fun b o z => le₂ b o (le₁ b o z)) (pr₁.trans pr₂) I₂ s₂

noncomputable def noStar (args : List Expr) : Bool := args.all (fun e => !isStar e)
theorem noStar_any : ∀ {args : List Expr} {env : Env} {pos : Pos}, noStar args = true → (backTo pos (starEach args env)).any (·.1) = false
  | [], _, _, _ => rfl
  | e :: es, env, pos, h => by
    unfold noStar at h
    rw [List.all_cons] at h
    obtain ⟨h1, h2⟩ := Bool.and_eq_true_iff.mp h
    rw [starEach_cons (by simpa using h1)]
    show (false || (backTo pos (starEach es env)).any (·.1)) = false
    rw [noStar_any h2]; rfl
theorem noStar_first : ∀ {args : List Expr}, noStar args = true → firstPlain args = true
  | [], _ => rfl
  | _ :: _, h => by
    unfold noStar at h
    rw [List.all_cons] at h
    exact (Bool.and_eq_true_iff.mp h).1

/-- a builtin is called by its name -/
theorem ev_blt {f : Str} {pf pos : Pos} {id : String} {args : List Expr} {xs : List V} {x : V} (h1 : EvL g sc n pos args ρ σ xs σ₁) (h2 : Op g n σ₁ xs (fun vs => call (.builtin id) vs) (fun P δ v => g.Sees P δ v x) σ₂) (hf : isGlob sc f = true := by decide +kernel) (hm : g.mg f = none := by first | assumption | exact (‹Has g _›).blt _ (by decide +kernel)) (hv : bootBuiltins f = some (.builtin id) := by decide +kernel) (hn : f ≠ "__name__" := by decide +kernel) (hp : noStar args = true := by rfl) : Ev g sc n (.Call (.Name f pf) args [] pos) ρ σ x σ₂ := by
  refine .mk ?_
  intro env A R P δ s Q O hA I h
  refine wpAny_Call_NameR (wp_builtin O I hf hm hv hn (callWith_builtin (noStar_any hp) (evalArgs_first (noStar_first hp) ?_)))
  refine h1.run env A R P δ s _ O hA I fun vs P₁ δ₁ hh₁ tk₁ le₁ pr₁ I₁ s₁ => ?_
  exact h2 env ρ A R P₁ δ₁ _ Q vs hA I₁ s₁ fun v P₂ δ₂ hh₂ tk₂ le₂ pr₂ I₂ s₂ => h v P₂ δ₂ hh₂ tk₂ (fun b o z => le₂ b o (le₁ b o z)) (pr₁.trans pr₂) I₂ s₂
theorem ev_typecall {f : Str} {pf pos : Pos} {T : String} {args : List Expr} {xs : List V} {x : V} (h1 : EvL g sc n pos args ρ σ xs σ₁) (h2 : Op g n σ₁ xs (fun vs => call (.type T) vs) (fun P δ v => g.Sees P δ v x) σ₂) (hf : isGlob sc f = true := by decide +kernel) (hm : g.mg f = none := by first | assumption | exact (‹Has g _›).blt _ (by decide +kernel)) (hv : bootBuiltins f = some (.type T) := by decide +kernel) (hn : f ≠ "__name__" := by decide +kernel) (hp : noStar args = true := by rfl) : Ev g sc n (.Call (.Name f pf) args [] pos) ρ σ x σ₂ := by
  refine .mk ?_
  intro env A R P δ s Q O hA I h
  refine wpAny_Call_NameR (wp_builtin O I hf hm hv hn (PySem.callWith_type (noStar_any hp) (evalArgs_first (noStar_first hp) ?_)))
  refine h1.run env A R P δ s _ O hA I fun vs P₁ δ₁ hh₁ tk₁ le₁ pr₁ I₁ s₁ => ?_
  exact h2 env ρ A R P₁ δ₁ _ Q vs hA I₁ s₁ fun v P₂ δ₂ hh₂ tk₂ le₂ pr₂ I₂ s₂ => h v P₂ δ₂ hh₂ tk₂ (fun b o z => le₂ b o (le₁ b o z)) (pr₁.trans pr₂) I₂ s₂
end
end Mine
end
section
open PySem PySem.W PyProof.Rows PySem.Calls
set_option Elab.async false
set_option linter.unusedVariables false
namespace Mine

/-- a slice by ones -/
noncomputable def psl {α : Type} (l : List α) (lo hi : Option Int) : List α := (l.drop (lo.elim 0 (clipAt l.length))).take (hi.elim l.length (clipAt l.length) - lo.elim 0 (clipAt l.length))
theorem psl_length {α : Type} (l : List α) (lo hi : Option Int) : (psl l lo hi).length ≤ l.length := by
  unfold psl; rw [List.length_take, List.length_drop]; omega
theorem psl_map {α β : Type} (f : α → β) (l : List α) (lo hi : Option Int) : psl (l.map f) lo hi = (psl l lo hi).map f := by
  unfold psl; rw [List.length_map, List.map_take, List.map_drop]
theorem psl_full {α : Type} {l : List α} {lo hi : Option Int} (h : (psl l lo hi).length = l.length) : psl l lo hi = l := by
  have hs : (psl l lo hi).Sublist l := (List.take_sublist _ _).trans (List.drop_sublist _ _)
  exact hs.eq_of_length h
theorem psl_upto {α : Type} (l : List α) (k : Nat) : psl l none (some (k : Int)) = l.take k := by
  unfold psl
  simp only [Option.elim, clipAt_nat, List.drop_zero, Nat.sub_zero]
  rcases Nat.le_total k l.length with h | h
  · rw [Nat.min_eq_left h]
  · rw [Nat.min_eq_right h, List.take_of_length_le (Nat.le_refl _), List.take_of_length_le h]
theorem psl_from {α : Type} (l : List α) (k : Nat) : psl l (some (k : Int)) none = l.drop k := by
  unfold psl
  simp only [Option.elim, clipAt_nat]
  rcases Nat.le_total k l.length with h | h
  · rw [Nat.min_eq_left h, List.take_of_length_le (by simp)]
  · rw [Nat.min_eq_right h, List.drop_of_length_le (by simp), List.drop_of_length_le h]; simp
theorem psl_mid {α : Type} (l : List α) (a b : Nat) : psl l (some (a : Int)) (some (b : Int)) = (l.take b).drop a := by
  unfold psl
  simp only [Option.elim, clipAt_nat]
  rw [List.drop_take]
  rcases Nat.le_total a l.length with h | h
  · rw [Nat.min_eq_left h]
    rcases Nat.le_total b l.length with h' | h'
    · rw [Nat.min_eq_left h']
    · rw [Nat.min_eq_right h', List.take_of_length_le (by simp), List.take_of_length_le (by simp; omega)]
  · rw [Nat.min_eq_right h, List.drop_of_length_le (Nat.le_refl _), List.drop_of_length_le h]; simp
theorem psl_butlast {α : Type} (l : List α) : psl l none (some (-1)) = l.dropLast := by
  unfold psl
  have := clipAt_neg l.length 1 (Nat.le_refl _)
  simp only [Option.elim, List.drop_zero, Nat.sub_zero]
  rw [show (-1 : Int) = -((1 : Nat) : Int) from rfl, this, List.dropLast_eq_take]
theorem psl_last {α : Type} (l : List α) (k : Nat) (hk : 1 ≤ k) : psl l (some (-(k : Int))) none = l.drop (l.length - k) := by
  unfold psl
  simp only [Option.elim, clipAt_neg l.length k hk]
  rw [List.take_of_length_le (by simp)]

theorem S8_list (l : List UInt8) : (S8 l).cps.toList = l.map UInt8.toNat := by simp [S8]
theorem S8_len (l : List UInt8) : (S8 l).length = l.length := by simp [S8, Str.length]
theorem S8_append (a b : List UInt8) : S8 a ++ S8 b = S8 (a ++ b) := by
  apply Str.ext'
  rw [Str.cps_append]
  simp [S8]
theorem map_toNat_inj {a b : List UInt8} (h : a.map UInt8.toNat = b.map UInt8.toNat) : a = b :=
  (List.map_inj_right (fun x y e => UInt8.toNat_inj.mp e)).mp h
theorem map_toNat_beq (a b : List UInt8) : (a.map UInt8.toNat == b.map UInt8.toNat) = (a == b) := by
  rw [Bool.eq_iff_iff, beq_iff_eq, beq_iff_eq]
  exact ⟨map_toNat_inj, fun e => by rw [e]⟩

theorem txt_slice (x : Str) (lo hi : Option Int) : Txt.slice x lo hi = ⟨(psl x.cps.toList lo hi).toArray⟩ := by
  have e : Builtin.Str.strSliceIndices lo hi 1 x.length = (List.range ((hi.elim x.length (clipAt x.length)) - lo.elim 0 (clipAt x.length))).map (lo.elim 0 (clipAt x.length) + ·) := by
    unfold Builtin.Str.strSliceIndices
    have := sliceBounds_plain lo hi x.length
    rw [← sliceRange_one]
    cases lo <;> cases hi <;> simp [clipAt_cast]
  have hl : x.cps.toList.length = x.length := by simp [Str.length]
  have hp : ((Builtin.Str.strSliceIndices lo hi 1 x.length).filterMap (x.cps[·]?)) = psl x.cps.toList lo hi := by
    rw [e, pick_run]; unfold psl; rw [hl]
  unfold Txt.slice
  rw [hp]
  split
  · rename_i h
    have h' : (Builtin.Str.strSliceIndices lo hi 1 x.length).length = x.length := by simpa using h
    have : (psl x.cps.toList lo hi).length = x.cps.toList.length := by
      unfold psl
      rw [hl]
      rw [e, List.length_map, List.length_range] at h'
      rw [List.length_take, List.length_drop, hl]
      have hc : ∀ i, clipAt x.length i ≤ x.length := fun i => by have := clipAt_cast x.length i; omega
      cases hi with
      | none => simp only [Option.elim] at h' ⊢; omega
      | some j => simp only [Option.elim] at h' ⊢; have := hc j; omega
    rw [psl_full this]
  · rfl

section
variable {g : Glo} {sc : Scope} {n : Nat} {ρ : Loc} {σ σ₁ σ₂ σ₃ : List MO}

theorem op_add_s {a b : List UInt8} (hz : a.length + b.length ≤ 16777216) : Op2 g n σ (binaryOp .Add) (.tx .s a) (.tx .s b) (.tx .s (a ++ b)) σ := .of fun env ρ A R P δ s Q v u hA I hv hu h => by
  obtain ⟨t, rfl⟩ := hv.tells
  obtain ⟨u, rfl⟩ := hu.tells
  refine SB.add (fun t' k => ?_) (by rw [S8_len, S8_len, sizeLine_eq]; exact hz)
  rw [S8_append]
  exact stay k I h (.str _ _)
theorem op_eq_tx {k : Kd} {a b : List UInt8} : Op2 g n σ (compareOp .Eq) (.tx k a) (.tx k b) (.bool (a == b)) σ := .of fun env ρ A R P δ s Q v u hA I hv hu h => by
  cases k with
  | s =>
    obtain ⟨t, rfl⟩ := hv.tells
    obtain ⟨u, rfl⟩ := hu.tells
    refine PySem.P.eq_str ?_
    rw [S8_list, S8_list, map_toNat_beq]
    exact stay s.toks I h (.bool _)
  | b =>
    obtain ⟨t, rfl⟩ := hv.tells
    obtain ⟨u, rfl⟩ := hu.tells
    refine eq_bytes ?_
    simp only
    exact stay s.toks I h (.bool _)
theorem op_ne_tx {k : Kd} {a b : List UInt8} : Op2 g n σ (compareOp .NotEq) (.tx k a) (.tx k b) (.bool (a != b)) σ := .of fun env ρ A R P δ s Q v u hA I hv hu h => by
  cases k with
  | s =>
    obtain ⟨t, rfl⟩ := hv.tells
    obtain ⟨u, rfl⟩ := hu.tells
    refine PySem.P.ne_str ?_
    rw [S8_list, S8_list, bne, map_toNat_beq]
    exact stay s.toks I h (.bool _)
  | b =>
    obtain ⟨t, rfl⟩ := hv.tells
    obtain ⟨u, rfl⟩ := hu.tells
    refine ne_bytes ?_
    simp only
    exact stay s.toks I h (.bool _)
theorem tr_tx {k : Kd} {a : List UInt8} (hz : a.length ≤ 16777216) : Tr g n σ (.tx k a) (!a.isEmpty) := .of fun env ρ A R P δ s Q v hA I hv h => by
  have e : ((a.length : Int) != 0) = !a.isEmpty := by
    cases a with
    | nil => rfl
    | cons c r => rw [Bool.eq_iff_iff]; simp; omega
  cases k with
  | s =>
    obtain ⟨t, rfl⟩ := hv.tells
    refine PySem.P.truthy_str (by rw [S8_len]; omega) ?_
    rw [S8_len, e]
    exact h P δ s.heap _ (fun _ _ z => z) (List.prefix_refl _) I
  | b =>
    obtain ⟨t, rfl⟩ := hv.tells
    refine truthy_bytes (by simp; omega) ?_
    rw [show ((a.toArray.size : Int) != 0) = ((a.length : Int) != 0) by simp, e]
    exact h P δ s.heap _ (fun _ _ z => z) (List.prefix_refl _) I
theorem op_len_tx {k : Kd} {a : List UInt8} (hz : a.length ≤ 16777216) : Op g n σ [.tx k a] (fun vs => call (.builtin "len") vs) (fun P δ v => g.Sees P δ v (.int a.length)) σ := by
  intro env ρ A R P δ s Q vs hA I hv h
  obtain ⟨v, rfl, hv1⟩ := hv.one
  replace hv := hv1
  cases k with
  | s =>
    obtain ⟨t, rfl⟩ := hv.tells
    refine PySem.P.len_str (by rw [S8_len]; omega) ?_
    rw [S8_len]
    exact stay _ I h (.int _ _)
  | b =>
    obtain ⟨t, rfl⟩ := hv.tells
    refine len_bytes (by simp; omega) ?_
    rw [show (a.toArray.size : Int) = (a.length : Int) by simp]
    exact stay _ I h (.int _ _)

noncomputable def rep (n : Nat) (a : List UInt8) : List UInt8 := (List.replicate n a).flatten
theorem txt_mul (a : List UInt8) (m : Nat) : Txt.mul (S8 a) (m : Int) = S8 (rep m a) := by
  unfold Txt.mul
  have fold : ∀ (k : Nat) (acc : List Nat), (List.replicate k (S8 a).cps).foldl (· ++ ·) acc.toArray = (acc ++ (List.replicate k (a.map UInt8.toNat)).flatten).toArray := by
    intro k
    induction k with
    | zero => intro acc; simp
    | succ k ih =>
      intro acc
      rw [List.replicate_succ, List.foldl_cons]
      have : acc.toArray ++ (S8 a).cps = (acc ++ a.map UInt8.toNat).toArray := by simp [S8]
      rw [this, ih, List.replicate_succ]
      simp
  have hr : ∀ k : Nat, S8 (rep k a) = ⟨((List.replicate k (a.map UInt8.toNat)).flatten).toArray⟩ := by
    intro k
    unfold S8 rep
    rw [List.map_flatten, List.map_replicate]
  split
  · rename_i h0
    have : m = 0 := by omega
    subst this
    rfl
  · split
    · rename_i h1
      rw [Bool.or_eq_true] at h1
      rcases h1 with h1 | h1
      · have : m = 1 := by have := beq_iff_eq.mp h1; omega
        subst this
        rw [hr]
        simp [S8]
      · rw [S8_len] at h1
        have : a = [] := List.length_eq_zero_iff.mp (beq_iff_eq.mp h1)
        subst this
        rw [hr]
        simp [S8]
    · rw [hr, Int.toNat_natCast]
      have := fold m []
      rw [show ([] : List Nat).toArray = #[] from rfl] at this
      rw [this]
      simp
theorem op_mul_s {a : List UInt8} {m : Nat} (ha : a ≠ []) (ha' : a.length ≤ 16) (hm : m ≤ 1048576) : Op2 g n σ (binaryOp .Mult) (.tx .s a) (.int (m : Int)) (.tx .s (rep m a)) σ := .of fun env ρ A R P δ s Q v u hA I hv hu h => by
  obtain ⟨u, rfl⟩ := hu.tells
  obtain ⟨t, rfl⟩ := hv.tells
  refine SB.mul ⟨?_, ?_, ?_⟩ (fun t' k => ?_)
  · have h1 : ¬ ((m : Int) < -(2 ^ 63 : Int)) := by omega
    have h2 : ¬ ((m : Int) ≥ 2 ^ 63) := by omega
    rw [decide_eq_false h1, decide_eq_false h2]; rfl
  · intro h1 h2
    rw [S8_len]
    have hmp : 1 ≤ (m : Int) := by omega
    have : (16 : Int) ≤ (2 ^ 63 - 1) / (m : Int) := by
      rw [Int.le_ediv_iff_mul_le (by omega)]; omega
    omega
  · intro h1 h2
    rw [S8_len, Int.toNat_natCast]
    have : a.length * m ≤ 16 * 1048576 := Nat.mul_le_mul ha' hm
    unfold Builtin.Str.tooLong
    simp only [decide_eq_false_iff_not]
    first | omega | (rw [sizeLine_eq]; omega)
  · rw [txt_mul]
    exact stay k I h (.str _ _)
end
end Mine
end
section
open PySem PySem.W PyProof.Rows PySem.Calls
set_option Elab.async false
set_option linter.unusedVariables false
namespace Mine

/-- a list's items, in a tree or in a cell -/
noncomputable def LV (σ : List MO) (x : V) (xs : List V) : Prop := x = .list xs ∨ ∃ i, x = .cell i ∧ σ[i]? = some (.list xs)
/-- a dict's pairs, in a tree or in a cell -/
noncomputable def DV (σ : List MO) (x : V) (xs : List (Str × V)) : Prop := x = .fdict xs ∨ ∃ i, x = .cell i ∧ σ[i]? = some (.dict xs)

section
variable {g : Glo} {R : RS} {P : PS} {δ : List Addr} {env : Env} {ρ : Loc} {σ σ₁ σ₂ σ₃ : List MO} {h : Heap} {sc : Scope} {n : Nat}

theorem Inv.listOf (I : Inv g R P δ env ρ σ h) {x : V} {xs : List V} {v : Value} (hx : LV σ x xs) (hv : g.Sees P δ v x) : ∃ a vs, v = .ref a ∧ h.IsList a (vs : List Value).toArray ∧ g.SeesL P δ vs xs := by
  rcases hx with rfl | ⟨i, rfl, hi⟩
  · obtain ⟨a, o, vs, m, rfl, h1, h2, h3, h4⟩ := hv.tells
    exact ⟨a, vs, rfl, ⟨o, I.keepP _ _ h1, h2, m, h3⟩, h4⟩
  · obtain ⟨a, rfl, ha⟩ := hv.tells
    obtain ⟨vs, h1, h2⟩ := I.objs i a _ ha hi
    exact ⟨a, vs, rfl, h1.isList, h2⟩
theorem Inv.tupOf (I : Inv g R P δ env ρ σ h) {xs : List V} {v : Value} (hv : g.Sees P δ v (.tup xs)) : ∃ a vs, v = .ref a ∧ IsTup h a (vs : List Value).toArray ∧ g.SeesL P δ vs xs := by
  obtain ⟨a, o, vs, m, rfl, h1, h2, h3, h4⟩ := hv.tells
  exact ⟨a, vs, rfl, ⟨o, I.keepP _ _ h1, h2, m, h3⟩, h4⟩
theorem Inv.dictOf (I : Inv g R P δ env ρ σ h) {x : V} {xs : List (Str × V)} {v : Value} (hx : DV σ x xs) (hv : g.Sees P δ v x) : ∃ a kvs, v = .ref a ∧ h.DictOf (strKind g.prog g.w) a kvs ∧ g.SeesD P δ kvs xs := by
  rcases hx with rfl | ⟨i, rfl, hi⟩
  · obtain ⟨a, o, kvs, rfl, h1, ⟨es, ep, h2⟩, h3⟩ := hv.tells
    exact ⟨a, kvs, rfl, ⟨o, es, ep, I.keepP _ _ h1, h2⟩, h3⟩
  · obtain ⟨a, rfl, ha⟩ := hv.tells
    obtain ⟨kvs, h1, h2⟩ := I.objs i a _ ha hi
    exact ⟨a, kvs, rfl, h1, h2⟩

/-- what has items -/
noncomputable def Seq (σ : List MO) (x : V) : Prop := (∃ k l, x = .tx k l) ∨ (∃ xs, LV σ x xs) ∨ (∃ xs, x = .tup xs) ∨ ∃ xs, DV σ x xs
theorem Seq.tx {k : Kd} {l : List UInt8} : Seq σ (.tx k l) := .inl ⟨k, l, rfl⟩
theorem Seq.lst {x : V} {xs : List V} (hx : LV σ x xs) : Seq σ x := .inr (.inl ⟨xs, hx⟩)
theorem Seq.tup {xs : List V} : Seq σ (.tup xs) := .inr (.inr (.inl ⟨xs, rfl⟩))
theorem Seq.dict {x : V} {xs : List (Str × V)} (hx : DV σ x xs) : Seq σ x := .inr (.inr (.inr ⟨xs, hx⟩))
theorem Inv.itemed {s : Shared} (I : Inv g R P δ env ρ σ s.heap) {x : V} {v : Value} (hx : Seq σ x) (hv : g.Sees P δ v x) : ∃ T id, s.TypeIs v T ∧ typeLookup (.type T) "__getitem__" = pure (some (.builtin id)) := by
  rcases hx with ⟨k, l, rfl⟩ | ⟨xs, hx⟩ | ⟨xs, rfl⟩ | ⟨xs, hx⟩
  · cases k with
    | s =>
      obtain ⟨t, rfl⟩ := hv.tells
      exact ⟨"str", _, typeIs_str _ _ _, F.slot_str_getitem.lookup⟩
    | b =>
      obtain ⟨t, rfl⟩ := hv.tells
      exact ⟨"bytes", _, typeIs_bytes _ _ _, FB.slot_bytes_getitem.lookup⟩
  · obtain ⟨a, vs, rfl, hl, _⟩ := I.listOf hx hv
    exact ⟨"list", _, hl.typeIs, slot_list_getitem.lookup⟩
  · obtain ⟨a, vs, rfl, hl, _⟩ := I.tupOf hv
    exact ⟨"tuple", _, hl.typeIs, slot_tuple_getitem.lookup⟩
  · obtain ⟨a, vs, rfl, hl, _⟩ := I.dictOf hx hv
    exact ⟨"dict", _, hl.typeIs, slot_dict_getitem.lookup⟩

theorem subscripted_ops (slice : Expr) (o i : Value) : ∃ ops, subscripted slice false o i = operate ops (getItem o i) := by
  cases slice with
  | Slice l u st p => cases st with
    | none => exact ⟨_, rfl⟩
    | some e => exact ⟨_, rfl⟩
  | _ => exact ⟨_, rfl⟩

theorem ev_sub {value slice : Expr} {pos : Pos} {x i y : V} (h1 : Ev g sc n value ρ σ x σ₁) (h2 : Ev g sc n slice ρ σ₁ i σ₂) (hx : Seq σ₂ x) (ho : Op2 g n σ₂ getItem x i y σ₃) : Ev g sc n (.Subscript value slice pos) ρ σ y σ₃ := by
  refine .mk ?_
  intro env A R P δ s Q O hA I h
  refine Subscript_ (h1.run env A R P δ s _ O hA I fun v P₁ δ₁ hh₁ tk₁ le₁ pr₁ I₁ s₁ => ?_)
  refine h2.run env A R P₁ δ₁ _ _ O hA I₁ fun u P₂ δ₂ hh₂ tk₂ le₂ pr₂ I₂ s₂ => ?_
  obtain ⟨T, id, hT, hl⟩ := I₂.itemed (s := { s with heap := hh₂, toks := tk₂ }) hx (s₁.mono le₂ pr₂)
  obtain ⟨ops, hs⟩ := subscripted_ops slice v u
  refine tail_any hT hl ?_ hs
  exact ho.use (s := { s with heap := hh₂, toks := tk₂ }) hA I₂ (s₁.mono le₂ pr₂) s₂ fun r P₃ δ₃ hh₃ tk₃ le₃ pr₃ I₃ s₃ => h r P₃ δ₃ hh₃ tk₃ (fun b o z => le₃ b o (le₂ b o (le₁ b o z))) ((pr₁.trans pr₂).trans pr₃) I₃ s₃

theorem op_item_list {x : V} {xs : List V} {i : Int} {y : V} (hx : LV σ x xs) (h0 : 0 ≤ i) (hi : i < 9223372036854775808) (hy : xs[i.toNat]? = some y) : Op2 g n σ getItem x (.int i) y σ := .of fun env ρ A R P δ s Q v u hA I hv hu h => by
  obtain ⟨a, vs, rfl, hl, hs⟩ := I.listOf hx hv
  obtain ⟨u, rfl⟩ := hu.tells
  obtain ⟨v, e, hv⟩ := hs.get hy
  exact wpAny_getItem_list hl h0 hi (by simpa using e) (stay s.toks I h hv)
theorem op_item_last {x : V} {xs : List V} {y : V} (hx : LV σ x xs) (hy : xs.getLast? = some y) (hz : xs.length ≤ 16777216) : Op2 g n σ getItem x (.int (-1)) y σ := .of fun env ρ A R P δ s Q v u hA I hv hu h => by
  obtain ⟨a, vs, rfl, hl, hs⟩ := I.listOf hx hv
  obtain ⟨u, rfl⟩ := hu.tells
  rw [List.getLast?_eq_getElem?] at hy
  have hlt : xs.length - 1 < xs.length := (List.getElem?_eq_some_iff.mp hy).1
  obtain ⟨v, e, hv⟩ := hs.get hy
  have hlen := hs.length
  refine wpAny_getItem_list_neg hl (by omega) (by simp; omega) (by omega) ?_ (stay s.toks I h hv)
  have : (-1 + ((vs.toArray).size : Int)).toNat = xs.length - 1 := by simp; omega
  rw [this]
  simpa using e
theorem op_item_tup {xs : List V} {i : Int} {y : V} (h0 : 0 ≤ i) (hi : i < 9223372036854775808) (hy : xs[i.toNat]? = some y) : Op2 g n σ getItem (.tup xs) (.int i) y σ := .of fun env ρ A R P δ s Q v u hA I hv hu h => by
  obtain ⟨a, vs, rfl, hl, hs⟩ := I.tupOf hv
  obtain ⟨u, rfl⟩ := hu.tells
  obtain ⟨v, e, hv⟩ := hs.get hy
  have hlt : i.toNat < vs.length := (List.getElem?_eq_some_iff.mp e).1
  refine PyProof.Rows.getItem_tuple (j := i.toNat) hl (by omega) hi ?_ (by simpa using e) (stay s.toks I h hv)
  obtain ⟨j, rfl⟩ := Int.eq_ofNat_of_zero_le h0
  unfold seqIndex?
  have h1 : ¬ ((j : Int) < 0) := by omega
  have h2 : (j : Int).toNat = j := by omega
  rw [h2] at hlt
  simp [h1, hlt]
theorem op_item_dict {x : V} {xs : List (Str × V)} {k : List UInt8} {y : V} (hx : DV σ x xs) (hy : xs.lookup (S8 k) = some y) : Op2 g n σ getItem x (.tx .s k) y σ := .of fun env ρ A R P δ s Q v u hA I hv hu h => by
  obtain ⟨a, kvs, rfl, hl, hs⟩ := I.dictOf hx hv
  obtain ⟨t, rfl⟩ := hu.tells
  obtain ⟨v, e, hv⟩ := hs.valueAt hy
  exact wpAny_getItem_of (strKind_is _ _ _ _) hl.mapOf e (stay _ I h hv)

theorem tr_list {x : V} {xs : List V} (hx : LV σ x xs) (hz : xs.length ≤ 16777216) : Tr g n σ x (!xs.isEmpty) := .of fun env ρ A R P δ s Q v hA I hv h => by
  obtain ⟨a, vs, rfl, hl, hs⟩ := I.listOf hx hv
  have hlen := hs.length
  refine wpAny_truthy_list hl (by simp; omega) ?_
  have : (!vs.toArray.isEmpty) = !xs.isEmpty := by
    cases vs <;> cases xs <;> simp at hlen ⊢
  rw [this]
  exact h P δ s.heap _ (fun _ _ z => z) (List.prefix_refl _) I
theorem tr_tup {xs : List V} (hz : xs.length ≤ 16777216) : Tr g n σ (.tup xs) (!xs.isEmpty) := .of fun env ρ A R P δ s Q v hA I hv h => by
  obtain ⟨a, vs, rfl, hl, hs⟩ := I.tupOf hv
  have hlen := hs.length
  refine truthy_tuple hl (by simp; omega) ?_
  have : (!vs.toArray.isEmpty) = !xs.isEmpty := by
    cases vs <;> cases xs <;> simp at hlen ⊢
  rw [this]
  exact h P δ s.heap _ (fun _ _ z => z) (List.prefix_refl _) I
theorem op_add_list {x y : V} {xs ys : List V} (hx : LV σ x xs) (hy : LV σ y ys) (hz : xs.length + ys.length ≤ 16777216) : Op2 g n σ (binaryOp .Add) x y (.list (xs ++ ys)) σ := .of fun env ρ A R P δ s Q v u hA I hv hu h => by
  obtain ⟨l, vs, rfl, hl, hs⟩ := I.listOf hx hv
  obtain ⟨b, us, rfl, hb, hs'⟩ := I.listOf hy hu
  have hlen := hs.length
  have hlen' := hs'.length
  obtain ⟨⟨cls, dd, data, sl⟩, ho, hc, n, hd⟩ := id hl
  obtain ⟨⟨cls2, dd2, data2, sl2⟩, ho2, hc2, n2, hd2⟩ := id hb
  simp only at hc hd hc2 hd2
  subst hc hd hc2 hd2
  have e : vs.toArray ++ us.toArray = (vs ++ us).toArray := by simp
  refine concat_meets ⟨_, ho, rfl⟩ ⟨_, ho2, rfl⟩ noFill_list_add seq_list_add PySem.F.slot_list_add PySem.F.entry_list_add (PySem.F.args_list_add_2 _ _) (list_addW l b vs.toArray us.toArray n n2 dd dd2 sl sl2 (by rw [sizeLine_eq]; simp; omega)) ⟨ho, ho2, ?_⟩
  rw [e]
  exact h _ _ δ (s.heap.push _) s.toks pin_le (List.prefix_refl _) (I.pushPin _) (.mkList pin_at rfl rfl ((hs.append hs').mono pin_le (List.prefix_refl _)))
theorem op_len_list {x : V} {xs : List V} (hx : LV σ x xs) (hz : xs.length ≤ 16777216) : Op g n σ [x] (fun vs => call (.builtin "len") vs) (fun P δ v => g.Sees P δ v (.int xs.length)) σ := by
  intro env ρ A R P δ s Q vs hA I hv h
  obtain ⟨v, rfl, hv1⟩ := hv.one
  obtain ⟨a, vs, rfl, hl, hs⟩ := I.listOf hx hv1
  have hlen := hs.length
  refine len_list hl (by simp; omega) ?_
  rw [show ((vs.toArray.size : Nat) : Int) = (xs.length : Int) by simp [hlen]]
  exact stay _ I h (.int _ _)

-- a list of one, repeated
theorem foldl_reps (m : Nat) (items : Array Value) : List.foldl (fun x1 x2 => x1 ++ x2) #[] (List.replicate m items) = (List.replicate m items.toList).flatten.toArray := by
  have : ∀ (k : Nat) (acc : Array Value), List.foldl (fun x1 x2 => x1 ++ x2) acc (List.replicate k items) = acc ++ (List.replicate k items.toList).flatten.toArray := by
    intro k
    induction k with
    | zero => intro acc; simp
    | succ k ih =>
      intro acc
      rw [List.replicate_succ, List.foldl_cons, ih, List.replicate_succ, List.flatten_cons]
      apply Array.ext'
      simp
  rw [this]; simp
theorem mul_made {A : Around} {E : Value → Shared → Prop} {s : Shared} {l : Addr} {items : Array Value} {x : Int} {u : Tok} {Q : Value → Shared → Prop} (hl : s.heap.get? l = some { cls := .type "list", dict := none, data := .seq items 0, slots := #[] })
    (hlo : -(2 ^ 63 : Int) ≤ x) (hhi : x < 2 ^ 63) (hsz : items.size * x.toNat ≤ 2 ^ 24)
    (h : Q (.ref s.heap.objs.size) { s with heap := s.heap.push { cls := .type "list", data := .seq (List.foldl (fun x1 x2 => x1 ++ x2) #[] (List.replicate (if items.isEmpty = true then 0 else x.toNat) items)) } }) :
    wpAny (model g.prog g.w) A (binaryOp .Mult (.ref l) (.int x u)) Q E s :=
  wpAny_binaryOp_repeat_ref (T := "list") (U := "int") (by decide) ⟨_, hl, rfl⟩ (fun s' => typeIs_int s' x u) noFill_list_mul F.fills_int_mul F.slot_int_rmul repeat_list F.slot_int_index.lookup
    (call_meets F.slot_int_rmul (typeIs_int s x u) F.entry_int_rmul (F.args_int_rmul_2 _ _) (int___rmul___int_list x u l items 0)
      ⟨hl, rfl, ⟨_, hl, rfl⟩, call_meets F.slot_list_mul ⟨_, hl, rfl⟩ F.entry_list_mul (F.args_list_mul_2 _ _)
        (AutoListH.list___mul___list_int_3 l items 0 x u (by simp [Builtin.List.listFitsIndex]; omega) (by omega) (by simp [Builtin.List.listTooLong, sizeLine]; omega))
        ⟨hl, h⟩⟩)
theorem ev_mulOne {e r : Expr} {lp p : Pos} {x : V} {m : Nat} (he : isStar e = false) (h1 : Ev g sc n e ρ σ x σ₁) (h2 : Ev g sc n r ρ σ₁ (.int (m : Int)) σ₂) (hm : m ≤ 16777216) : Ev g sc n (.BinOp (.List [e] lp) .Mult r p) ρ σ (.list (List.replicate m x)) σ₂ := by
  refine .mk ?_
  intro env A R P δ s Q O hA I h
  refine wpAny_BinOp (wpAny_List_spliced ?_)
  refine (evl_cons h1 evl_nil he).run env A R P δ s _ O hA I fun vs P₁ δ₁ hh₁ tk₁ le₁ pr₁ I₁ s₁ => ?_
  obtain ⟨v, rfl, hv⟩ := s₁.one
  refine ⟨by rw [sizeLine_eq]; simp, ?_⟩
  refine h2.run env A R _ δ₁ { s with heap := hh₁.push _, toks := tk₁ } _ O hA (I₁.pushPin _) fun u P₂ δ₂ hh₂ tk₂ le₂ pr₂ I₂ s₂ => ?_
  obtain ⟨u, rfl⟩ := s₂.tells
  have hl : hh₂.get? hh₁.objs.size = some { cls := .type "list", dict := none, data := .seq [v].toArray 0, slots := #[] } := I₂.keepP _ _ (le₂ _ _ pin_at)
  refine mul_made (s := { s with heap := hh₂, toks := tk₂ }) hl (by omega) (by omega) (by simp; omega) ?_
  have e : List.foldl (fun x1 x2 => x1 ++ x2) #[] (List.replicate (if ([v].toArray).isEmpty = true then 0 else (m : Int).toNat) [v].toArray) = (List.replicate m v).toArray := by
    rw [foldl_reps]
    simp
  have e0 : List.replicate m x = List.replicate m x := rfl
  rw [e]
  refine h _ _ δ₂ (hh₂.push _) tk₂ (fun b o z => pin_le b o (le₂ b o (pin_le b o (le₁ b o z)))) (pr₁.trans pr₂) (I₂.pushPin _) (.mkList pin_at rfl rfl ⟨by simp, fun i v' x' a b => ?_⟩)
  have hv2 := (hv.mono pin_le (List.prefix_refl _)).mono le₂ pr₂
  rw [List.getElem?_replicate] at a b
  split at a
  · rename_i hi
    rw [if_pos hi] at b
    cases a; cases b
    exact hv2.mono pin_le (List.prefix_refl _)
  · cases a
end
end Mine
end
section
open PySem PySem.W PyProof.Rows PySem.Calls PySem.SeqAt
set_option Elab.async false
set_option linter.unusedVariables false
namespace Mine

/-- two trees compared: are they equal? -/
inductive Cm : Nat → V → V → Bool → Prop
  | none (n) : Cm n .none .none true
  | bool (n) (a b : Bool) : Cm n (.bool a) (.bool b) (a == b)
  | int (n) (a b : Int) : Cm n (.int a) (.int b) (a == b)
  | str (n) (a b : List UInt8) : Cm n (.tx .s a) (.tx .s b) (a == b)
  | bytes (n) (a b : List UInt8) : Cm n (.tx .b a) (.tx .b b) (a == b)
  | strNone (n) (a : List UInt8) : Cm n (.tx .s a) .none false
  | noneStr (n) (a : List UInt8) : Cm n .none (.tx .s a) false
  | list (n) (xs ys : List V) (e : Nat → Bool) : xs.length = ys.length → (∀ (j : Nat) x y, xs[j]? = some x → ys[j]? = some y → Cm n x y (e j)) → Cm (n + 1) (.list xs) (.list ys) ((List.range xs.length).all e)
  | lens (n) (xs ys : List V) : xs.length ≠ ys.length → Cm (n + 1) (.list xs) (.list ys) false
  | tup (n) (xs ys : List V) (e : Nat → Bool) : (∀ (j : Nat) x y, xs[j]? = some x → ys[j]? = some y → Cm n x y (e j)) → Cm (n + 1) (.tup xs) (.tup ys) ((List.range (min xs.length ys.length)).all e && xs.length == ys.length)

theorem S8_beq (a b : List UInt8) : (S8 a == S8 b) = (a == b) := by
  rw [Bool.eq_iff_iff, beq_iff_eq, beq_iff_eq]
  refine ⟨fun e => map_toNat_inj ?_, fun e => by rw [e]⟩
  have := congrArg (fun x : Str => x.cps.toList) e
  simpa [S8_list] using this

section
variable {g : Glo} {R : RS} {P : PS} {δ : List Addr} {env : Env} {ρ : Loc} {σ σ₁ σ₂ σ₃ : List MO} {h : Heap} {sc : Scope} {n : Nat}

theorem same_objs (I : Inv g R P δ env ρ σ h) {a : Addr} {o o' : Obj} (h1 : P a o) (h2 : P a o') : o = o' := Option.some.inj ((I.keepP _ _ h1).symm.trans (I.keepP _ _ h2))

/-- one value, seen as two trees, is equal to itself -/
theorem Cm.self (I : Inv g R P δ env ρ σ h) {x y : V} {b : Bool} (c : Cm n x y b) : ∀ {v : Value}, g.Sees P δ v x → g.Sees P δ v y → b = true := by
  have seqs : ∀ {o o' : Obj} {a : Addr} {vs us : List Value} {k k' : Nat} {xs ys : List V}, P a o → P a o' → o.data = .seq vs.toArray k → o'.data = .seq us.toArray k' → g.SeesL P δ vs xs → g.SeesL P δ us ys → vs = us ∧ xs.length = ys.length := by
    intro o o' a vs us k k' xs ys p p' d d' s s'
    have := same_objs I p p'
    subst this
    rw [d] at d'
    injection d' with e1 e2
    have : vs = us := by simpa using e1
    exact ⟨this, by rw [← s.length, ← s'.length, this]⟩
  induction c with
  | none => intros; rfl
  | bool n a b => intro v s1 s2; obtain rfl := s1.tells; have := s2.tells; injection this with e; simp [e]
  | int n a b => intro v s1 s2; obtain ⟨t, rfl⟩ := s1.tells; obtain ⟨u, this⟩ := s2.tells; injection this with e; simp [e]
  | str n a b =>
    intro v s1 s2; obtain ⟨t, rfl⟩ := s1.tells; obtain ⟨u, this⟩ := s2.tells; injection this with e
    have := S8_beq a b; rw [e] at this; rw [← this]; simp
  | bytes n a b =>
    intro v s1 s2; obtain ⟨t, rfl⟩ := s1.tells; obtain ⟨u, this⟩ := s2.tells; injection this with e
    have e : a = b := by simpa using e
    simp [e]
  | strNone n a => intro v s1 s2; obtain ⟨t, rfl⟩ := s1.tells; exact nomatch s2.tells
  | noneStr n a => intro v s1 s2; obtain rfl := s1.tells; obtain ⟨t, e⟩ := s2.tells; cases e
  | list n xs ys e hl _ ih =>
    intro v s1 s2
    obtain ⟨a, o, vs, k, rfl, h1, h2, h3, h4⟩ := s1.tells
    obtain ⟨a', o', us, k', e', h1', h2', h3', h4'⟩ := s2.tells
    cases e'
    obtain ⟨rfl, _⟩ := seqs h1 h1' h3 h3' h4 h4'
    rw [List.all_eq_true]
    intro j hj
    have hj := List.mem_range.mp hj
    have hj' : j < ys.length := hl ▸ hj
    have hjv : j < vs.length := h4.length ▸ hj
    exact ih j _ _ (List.getElem?_eq_getElem hj) (List.getElem?_eq_getElem hj') (h4.2 j _ _ (List.getElem?_eq_getElem hjv) (List.getElem?_eq_getElem hj)) (h4'.2 j _ _ (List.getElem?_eq_getElem hjv) (List.getElem?_eq_getElem hj'))
  | lens n xs ys hl =>
    intro v s1 s2
    obtain ⟨a, o, vs, k, rfl, h1, h2, h3, h4⟩ := s1.tells
    obtain ⟨a', o', us, k', e', h1', h2', h3', h4'⟩ := s2.tells
    cases e'
    exact absurd (seqs h1 h1' h3 h3' h4 h4').2 hl
  | tup n xs ys e _ ih =>
    intro v s1 s2
    obtain ⟨a, o, vs, k, rfl, h1, h2, h3, h4⟩ := s1.tells
    obtain ⟨a', o', us, k', e', h1', h2', h3', h4'⟩ := s2.tells
    cases e'
    obtain ⟨rfl, hl⟩ := seqs h1 h1' h3 h3' h4 h4'
    rw [Bool.and_eq_true]
    refine ⟨?_, by simpa using hl⟩
    rw [List.all_eq_true]
    intro j hj
    have hj : j < xs.length := Nat.lt_of_lt_of_le (List.mem_range.mp hj) (Nat.min_le_left _ _)
    have hj' : j < ys.length := hl ▸ hj
    have hjv : j < vs.length := h4.length ▸ hj
    exact ih j _ _ (List.getElem?_eq_getElem hj) (List.getElem?_eq_getElem hj') (h4.2 j _ _ (List.getElem?_eq_getElem hjv) (List.getElem?_eq_getElem hj)) (h4'.2 j _ _ (List.getElem?_eq_getElem hjv) (List.getElem?_eq_getElem hj'))

noncomputable def isFl : Value → Bool
  | .float _ _ => true
  | _ => false
theorem Sees.noFl {prog : Program} {w : World} {mg : Str → Option Value} {v : Value} {x : V} (h : Sees prog w mg P δ v x) : isFl v = false := by cases h <;> rfl
theorem EqAt.of_rc {A : Around} {s : Shared} {v u : Value} {b : Bool} (hf : isFl v = false) (hs : v = u → b = true) (h : RcAt A s v u b) : EqAt A s v u b := fun prog w E Q hq => by
  unfold eqBool
  refine wpAny_holding ?_
  refine wpAny_ite_split (fun hab => ?_) (fun _ => ?_)
  · have : b = true := hs (eq_of_beq hab)
    subst this
    exact wpAny_bind (wpAny_rule (wpAny_pure hq))
  · cases v with
    | float b t => cases hf
    | _ => exact wpAny_bind (h prog w E _ (wpAny_truthy_bool hq))

theorem AOk.in1' {A : Around} (h : A.units + (n + 1) < cLine) : A.in1.units + n < cLine := by show A.units + 1 + n < cLine; omega

theorem Cm.rc {s : Shared} (I : Inv g R P δ env ρ σ s.heap) {x y : V} {b : Bool} (c : Cm n x y b) : ∀ {A : Around} {v u : Value}, A.units + n < cLine → g.Sees P δ v x → g.Sees P δ u y → RcAt A s v u b := by
  have elems : ∀ {m : Nat} {xs ys : List V} {e : Nat → Bool} {A : Around} {vs us : List Value}, (∀ (j : Nat) x y, xs[j]? = some x → ys[j]? = some y → Cm m x y (e j)) → (∀ (j : Nat) x y, xs[j]? = some x → ys[j]? = some y → ∀ {A : Around} {v u : Value}, A.units + m < cLine → g.Sees P δ v x → g.Sees P δ u y → RcAt A s v u (e j)) →
      A.units + (m + 1) < cLine → g.SeesL P δ vs xs → g.SeesL P δ us ys → ∀ j (h1 : j < vs.toArray.size) (h2 : j < us.toArray.size), EqAt A.in1 s vs.toArray[j] us.toArray[j] (e j) := by
    intro m xs ys e A vs us hc ih hu hs hs' j h1 h2
    have h1' : j < vs.length := by simpa using h1
    have h2' : j < us.length := by simpa using h2
    have hx : j < xs.length := hs.length ▸ h1'
    have hy : j < ys.length := hs'.length ▸ h2'
    have sx := hs.2 j vs[j] xs[j] (List.getElem?_eq_getElem h1') (List.getElem?_eq_getElem hx)
    have sy := hs'.2 j us[j] ys[j] (List.getElem?_eq_getElem h2') (List.getElem?_eq_getElem hy)
    have ex := List.getElem?_eq_getElem hx
    have ey := List.getElem?_eq_getElem hy
    show EqAt A.in1 s vs[j] us[j] (e j)
    exact EqAt.of_rc sx.noFl (fun q => (hc j _ _ ex ey).self I sx (q ▸ sy)) (ih j _ _ ex ey (AOk.in1' hu) sx sy)
  have room : ∀ {A : Around} {m : Nat}, A.units + (m + 1) < cLine → A.units < cLine := fun h => by omega
  induction c with
  | none => intro A v u hu s1 s2; obtain rfl := s1.tells; obtain rfl := s2.tells; exact RcAt.none_none
  | bool n a b => intro A v u hu s1 s2; obtain rfl := s1.tells; obtain rfl := s2.tells; exact RcAt.bool_bool a b
  | int n a b => intro A v u hu s1 s2; obtain ⟨t, rfl⟩ := s1.tells; obtain ⟨t', rfl⟩ := s2.tells; exact RcAt.int_int a t b t'
  | str n a b => intro A v u hu s1 s2; obtain ⟨t, rfl⟩ := s1.tells; obtain ⟨t', rfl⟩ := s2.tells; rw [← S8_beq]; exact RcAt.str_str _ t _ t'
  | bytes n a b => intro A v u hu s1 s2; obtain ⟨t, rfl⟩ := s1.tells; obtain ⟨t', rfl⟩ := s2.tells; exact fun prog w E Q h => eq_bytes (by simpa using h)
  | strNone n a => intro A v u hu s1 s2; obtain ⟨t, rfl⟩ := s1.tells; obtain rfl := s2.tells; exact RcAt.str_none _ t
  | noneStr n a => intro A v u hu s1 s2; obtain rfl := s1.tells; obtain ⟨t, rfl⟩ := s2.tells; exact RcAt.none_str _ t
  | list n xs ys e hl hc ih =>
    intro A v u hu s1 s2
    obtain ⟨a, vs, rfl, h1, h2⟩ := I.listOf (.inl rfl) s1
    obtain ⟨a', us, rfl, h1', h2'⟩ := I.listOf (.inl rfl) s2
    have := RcAt.lists (e := e) h1 h1' (by simp [h2.length, h2'.length, hl]) (room hu) (elems hc ih hu h2 h2')
    simpa [h2.length] using this
  | lens n xs ys hl =>
    intro A v u hu s1 s2
    obtain ⟨a, vs, rfl, h1, h2⟩ := I.listOf (.inl rfl) s1
    obtain ⟨a', us, rfl, h1', h2'⟩ := I.listOf (.inl rfl) s2
    exact RcAt.lists_lengths h1 h1' (by simp [h2.length, h2'.length, hl]) (room hu)
  | tup n xs ys e hc ih =>
    intro A v u hu s1 s2
    obtain ⟨a, vs, rfl, ⟨o, p1, p2, p3⟩, h2⟩ := I.tupOf s1
    obtain ⟨a', us, rfl, ⟨o', p1', p2', p3'⟩, h2'⟩ := I.tupOf s2
    have := RcAt.tuples (e := e) ⟨o, p1, p2, p3⟩ ⟨o', p1', p2', p3'⟩ (room hu) (elems hc ih hu h2 h2')
    simpa [h2.length, h2'.length] using this

theorem Cm.ne {s : Shared} (I : Inv g R P δ env ρ σ s.heap) {x y : V} {b : Bool} (c : Cm n x y b) {A : Around} {v u : Value} (hu : A.units + n < cLine) (s1 : g.Sees P δ v x) (s2 : g.Sees P δ u y) : RcNeAt A s v u (!b) := by
  have elems : ∀ {m : Nat} {xs ys : List V} {e : Nat → Bool} {A : Around} {vs us : List Value}, (∀ (j : Nat) x y, xs[j]? = some x → ys[j]? = some y → Cm m x y (e j)) →
      A.units + (m + 1) < cLine → g.SeesL P δ vs xs → g.SeesL P δ us ys → ∀ j (h1 : j < vs.toArray.size) (h2 : j < us.toArray.size), EqAt A.in1 s vs.toArray[j] us.toArray[j] (e j) := by
    intro m xs ys e A vs us hc hu hs hs' j h1 h2
    have h1' : j < vs.length := by simpa using h1
    have h2' : j < us.length := by simpa using h2
    have hx : j < xs.length := hs.length ▸ h1'
    have hy : j < ys.length := hs'.length ▸ h2'
    have sx := hs.2 j vs[j] xs[j] (List.getElem?_eq_getElem h1') (List.getElem?_eq_getElem hx)
    have sy := hs'.2 j us[j] ys[j] (List.getElem?_eq_getElem h2') (List.getElem?_eq_getElem hy)
    have ex := List.getElem?_eq_getElem hx
    have ey := List.getElem?_eq_getElem hy
    show EqAt A.in1 s vs[j] us[j] (e j)
    exact EqAt.of_rc sx.noFl (fun q => (hc j _ _ ex ey).self I sx (q ▸ sy)) ((hc j _ _ ex ey).rc I (AOk.in1' hu) sx sy)
  have room : ∀ {A : Around} {m : Nat}, A.units + (m + 1) < cLine → A.units < cLine := fun h => by omega
  cases c with
  | none => obtain rfl := s1.tells; obtain rfl := s2.tells; exact RcNeAt.none_none
  | bool _ a b => obtain rfl := s1.tells; obtain rfl := s2.tells; exact RcNeAt.bool_bool a b
  | int _ a b => obtain ⟨t, rfl⟩ := s1.tells; obtain ⟨t', rfl⟩ := s2.tells; exact RcNeAt.int_int a t b t'
  | str _ a b => obtain ⟨t, rfl⟩ := s1.tells; obtain ⟨t', rfl⟩ := s2.tells; rw [← S8_beq]; exact RcNeAt.str_str _ t _ t'
  | bytes _ a b => obtain ⟨t, rfl⟩ := s1.tells; obtain ⟨t', rfl⟩ := s2.tells; exact fun prog w E Q h => ne_bytes (by simpa [bne] using h)
  | strNone _ a => obtain ⟨t, rfl⟩ := s1.tells; obtain rfl := s2.tells; exact RcNeAt.str_none _ t
  | noneStr _ a => obtain rfl := s1.tells; obtain ⟨t, rfl⟩ := s2.tells; exact RcNeAt.none_str _ t
  | list n xs ys e hl hc =>
    obtain ⟨a, vs, rfl, h1, h2⟩ := I.listOf (.inl rfl) s1
    obtain ⟨a', us, rfl, h1', h2'⟩ := I.listOf (.inl rfl) s2
    have := RcNeAt.lists (e := e) h1 h1' (by simp [h2.length, h2'.length, hl]) (room hu) (elems hc hu h2 h2')
    simpa [h2.length] using this
  | lens n xs ys hl =>
    obtain ⟨a, vs, rfl, h1, h2⟩ := I.listOf (.inl rfl) s1
    obtain ⟨a', us, rfl, h1', h2'⟩ := I.listOf (.inl rfl) s2
    exact RcNeAt.lists_lengths h1 h1' (by simp [h2.length, h2'.length, hl]) (room hu)
  | tup n xs ys e hc =>
    obtain ⟨a, vs, rfl, ⟨o, p1, p2, p3⟩, h2⟩ := I.tupOf s1
    obtain ⟨a', us, rfl, ⟨o', p1', p2', p3'⟩, h2'⟩ := I.tupOf s2
    have := RcNeAt.tuples (e := e) ⟨o, p1, p2, p3⟩ ⟨o', p1', p2', p3'⟩ (room hu) (elems hc hu h2 h2')
    simpa [h2.length, h2'.length] using this

theorem AOk.cm {A : Around} {m : Nat} (h : AOk A n R env) (hm : m ≤ 64) : A.units + m < cLine := by have := h.units; show A.units + m < 9900; omega
theorem op_eq {m : Nat} {x y : V} {b : Bool} (c : Cm m x y b) (hm : m ≤ 64) : Op2 g n σ (compareOp .Eq) x y (.bool b) σ := .of fun env ρ A R P δ s Q v u hA I hv hu h =>
  c.rc I (hA.cm hm) hv hu g.prog g.w NoE Q (stay s.toks I h (.bool _))
theorem op_ne {m : Nat} {x y : V} {b : Bool} (c : Cm m x y b) (hm : m ≤ 64) : Op2 g n σ (compareOp .NotEq) x y (.bool (!b)) σ := .of fun env ρ A R P δ s Q v u hA I hv hu h =>
  c.ne I (hA.cm hm) hv hu g.prog g.w NoE Q (stay s.toks I h (.bool _))

theorem cm_tx (k : Kd) (a b : List UInt8) : Cm 0 (.tx k a) (.tx k b) (a == b) := by cases k; exact .str _ _ _; exact .bytes _ _ _
/-- lists of things that are told apart -/
theorem cm_list {α : Type} [DecidableEq α] {m : Nat} (f : α → V) (hf : ∀ a b, Cm m (f a) (f b) (decide (a = b))) (as bs : List α) : Cm (m + 1) (.list (as.map f)) (.list (bs.map f)) (decide (as = bs)) := by
  by_cases hl : as.length = bs.length
  · have c := Cm.list m (as.map f) (bs.map f) (fun j => decide (as[j]? = bs[j]?)) (by simpa using hl) (fun j x y a b => by
      rw [List.getElem?_map] at a b
      obtain ⟨a', ha, rfl⟩ := Option.map_eq_some_iff.mp a
      obtain ⟨b', hb, rfl⟩ := Option.map_eq_some_iff.mp b
      rw [ha, hb]
      have := hf a' b'
      simpa using this)
    have e : ((List.range (as.map f).length).all fun j => decide (as[j]? = bs[j]?)) = decide (as = bs) := by
      rw [Bool.eq_iff_iff, List.all_eq_true, decide_eq_true_iff]
      constructor
      · intro h
        apply List.ext_getElem?
        intro j
        by_cases hj : j < as.length
        · simpa using h j (by simpa using hj)
        · rw [List.getElem?_eq_none (by omega), List.getElem?_eq_none (by omega)]
      · rintro rfl j _; simp
    rw [e] at c
    exact c
  · have e : decide (as = bs) = false := decide_eq_false (fun h => hl (by rw [h]))
    rw [e]
    exact .lens _ _ _ (by simpa using hl)
theorem cm_pair {m : Nat} {x₁ x₂ y₁ y₂ : V} {a b : Bool} (h1 : Cm m x₁ y₁ a) (h2 : Cm m x₂ y₂ b) : Cm (m + 1) (.tup [x₁, x₂]) (.tup [y₁, y₂]) (a && b) := by
  have c := Cm.tup m [x₁, x₂] [y₁, y₂] (fun j => if j = 0 then a else b) (fun j x y hx hy => by
    match j, hx, hy with
    | 0, hx, hy => cases hx; cases hy; exact h1
    | 1, hx, hy => cases hx; cases hy; exact h2
    | j + 2, hx, hy => simp at hx)
  have e : ((List.range (min [x₁, x₂].length [y₁, y₂].length)).all (fun j => if j = 0 then a else b) && [x₁, x₂].length == [y₁, y₂].length) = (a && b) := by
    show ((List.range 2).all _ && _) = _
    simp [List.range_succ]
  rw [e] at c
  exact c
end
end Mine
end
section
open PySem PySem.W PyProof.Rows PySem.Calls PySem.SeqAt
set_option Elab.async false
set_option linter.unusedVariables false
set_option maxRecDepth 100000
namespace Mine

section
variable {prog : Program} {w : World} {A : Around} {E : Value → Shared → Prop} {s : Shared}

theorem sub_ss : isSubtype (.type "str") (.type "str") = pure true := sub_str_str
theorem sub_bs : isSubtype (.type "bytes") (.type "str") = pure false := by rw [isSubtype_type]; kernel_rfl
theorem sub_bb : isSubtype (.type "bytes") (.type "bytes") = pure true := by rw [isSubtype_type]; kernel_rfl
theorem sub_sb : isSubtype (.type "str") (.type "bytes") = pure false := by rw [isSubtype_type]; kernel_rfl
theorem entry_issubclass : entryFor table "issubclass" = some Builtin.«issubclass» := entryFor_of_tree (by kernel_rfl)
theorem entry_issubclass_nested : entryFor table "issubclass.nested" = some Builtin.«issubclass.nested» := entryFor_of_tree (by kernel_rfl)
theorem args_issubclass (a b : Value) : argsOk "issubclass" ⟨[a, b], []⟩ := by unfold argsOk; kernel_rfl
theorem kind_issubclass : builtinKind "issubclass" = none := by decide +kernel
theorem plain_issubclass : plainId "issubclass" = true := by decide +kernel

theorem nested_of {T U : String} {b : Bool} {k : Int} {Q : Fin → Shared → Prop} (hty : typeOf (.type U) = pure (.type "type")) (hsub : isSubtype (.type T) (.type U) = pure b) (h : Q (.done (.ret (.bool b))) s) :
    wpAny (model prog w) A (Builtin.«issubclass.nested» ⟨[.type T, .type U, rawInt k], []⟩) Q E s := by
  unfold Builtin.«issubclass.nested»
  refine wpAny_bind (m := typeOf (.type U)) (wpAny_of_eq hty ?_)
  show wpAny _ _ (if (Value.type "type" == Value.type "type") = true then _ else _) _ _ s
  rw [if_pos (by decide)]
  refine wpAny_bind (wpAny_bind (m := isType (.type T)) (wpAny_pure (a := true) ?_))
  refine wpAny_bind (m := isType (.type U)) (wpAny_pure (a := true) ?_)
  rw [if_pos (by decide)]
  exact wpAny_of_eq (Q := fun a s' => wpAny (model prog w) A (ret (Value.bool a)) Q E s') hsub (wpAny_pure h)
theorem call_nested {T U : String} {b : Bool} {k : Int} {Q : Value → Shared → Prop} (hty : typeOf (.type U) = pure (.type "type")) (hsub : isSubtype (.type T) (.type U) = pure b) (h : Q (.bool b) s) :
    wpAny (model prog w) A (call (.builtin "issubclass.nested") [.type T, .type U, rawInt k]) Q E s := by
  refine wpAny_call (codeAny_call_builtin (by decide +kernel) entry_issubclass_nested ?_)
  simp only [checkBuiltinCall, show builtinKind "issubclass.nested" = none by decide +kernel]
  have hsig : Manifest.signature? "issubclass.nested" = none := by kernel_rfl
  rw [hsig]
  exact wpAny_pure (nested_of hty hsub h)
theorem nested_tup {T : String} {b : Bool} {a : Addr} {Q : Fin → Shared → Prop} (ha : IsTup s.heap a #[.type "str", .type "bytes"]) (hsub : isSubtype (.type T) (.type "str") = pure b) (hsub' : b = false → isSubtype (.type T) (.type "bytes") = pure true) (h : Q (.done (.ret (.bool true))) s) :
    wpAny (model prog w) A (Builtin.«issubclass.nested» ⟨[.type T, .ref a, rawInt 0], []⟩) Q E s := by
  have hT := ha.typeIs
  unfold Builtin.«issubclass.nested»
  refine wpAny_bind (m := typeOf (.ref a)) (wpAny_typeOf hT ?_)
  show wpAny _ _ (if (Value.type "tuple" == Value.type "type") = true then _ else _) _ _ s
  rw [if_neg (by decide)]
  refine wpAny_bind (m := Builtin.Builtins.unionMembers (.ref a)) ?_
  unfold Builtin.Builtins.unionMembers
  refine wpAny_bind (m := typeOf (.ref a)) (wpAny_typeOf hT ?_)
  show wpAny _ _ (if (Value.type "tuple" == Value.type "types.UnionType") = true then _ else _) _ _ s
  rw [if_neg (by decide)]
  refine wpAny_pure ?_
  refine wpAny_bind (m := isInstance (.ref a) (.type "tuple")) (wpAny_isInstance (b := true) hT (by rw [isSubtype_type]; kernel_rfl) ?_)
  obtain ⟨o, ho, hc, n, hd⟩ := ha
  simp only [if_true]
  refine wpAny_bind (m := seqItems? (.ref a)) (wpAny_seqItems ho hd ?_)
  simp only [Option.getD_some, ← Array.forIn_toList, List.forIn_cons, List.forIn_nil]
  refine wpAny_bind (wpAny_bind (wpAny_bind (call_nested meta_str hsub (wpAny_bind (wpAny_truthy_bool ?_)))))
  cases b with
  | true => exact wpAny_pure (wpAny_pure (wpAny_pure h))
  | false =>
    refine wpAny_pure (wpAny_bind (wpAny_bind (call_nested meta_bytes (hsub' rfl) (wpAny_bind (wpAny_truthy_bool ?_)))))
    exact wpAny_pure (wpAny_pure (wpAny_pure h))
theorem call_issubclass {T : String} {b : Bool} {a : Addr} {Q : Value → Shared → Prop} (ha : IsTup s.heap a #[.type "str", .type "bytes"]) (hsub : isSubtype (.type T) (.type "str") = pure b) (hsub' : b = false → isSubtype (.type T) (.type "bytes") = pure true) (h : Q (.bool true) s) :
    wpAny (model prog w) A (call (.builtin "issubclass") [.type T, .ref a]) Q E s := by
  refine call_function_any kind_issubclass plain_issubclass entry_issubclass (args_issubclass _ _) ?_
  unfold Builtin.«issubclass»
  refine wpAny_bind (wpAny_of_eq (a := [Value.type T, Value.ref a]) rfl ?_)
  refine wpAny_pure (a := Fin.again (.builtin "issubclass.nested" ⟨[.type T, .ref a, rawInt 0], []⟩)) ⟨plainId_quiet (by decide +kernel) _, codeAny_builtin entry_issubclass_nested ?_⟩
  rw [Around.under_plainId (id := "issubclass.nested") (by decide +kernel) _]
  exact nested_tup ha hsub hsub' h
end
/-- what a text's kind is called -/
noncomputable def Kd.name : Kd → String
  | .s => "str"
  | .b => "bytes"

section
variable {g : Glo} {R : RS} {P : PS} {δ : List Addr} {env : Env} {ρ : Loc} {σ σ₁ σ₂ σ₃ : List MO} {h : Heap} {sc : Scope} {n : Nat}
theorem Op.one {α : Type} {t : List Value → Sem α} {S : PS → List Addr → α → Prop} {x : V} {σ' : List MO}
    (k : ∀ (env : Env) (ρ : Loc) (A : Around) (R : RS) (P : PS) (δ : List Addr) (s : Shared) (Q : α → Shared → Prop) (v : Value), AOk A n R env → Inv g R P δ env ρ σ s.heap → g.Sees P δ v x →
      (∀ v P' δ' h' tk', (∀ b o, P b o → P' b o) → δ <+: δ' → Inv g R P' δ' env ρ σ' h' → S P' δ' v → Q v { s with heap := h', toks := tk' }) → wpAny (model g.prog g.w) A (t [v]) Q NoE s) : Op g n σ [x] t S σ' := by
  intro env ρ A R P δ s Q vs hA I hv h
  obtain ⟨v, rfl, a⟩ := hv.one
  exact k env ρ A R P δ s Q v hA I a h
theorem Op.two {α : Type} {t : List Value → Sem α} {S : PS → List Addr → α → Prop} {x y : V} {σ' : List MO}
    (k : ∀ (env : Env) (ρ : Loc) (A : Around) (R : RS) (P : PS) (δ : List Addr) (s : Shared) (Q : α → Shared → Prop) (v u : Value), AOk A n R env → Inv g R P δ env ρ σ s.heap → g.Sees P δ v x → g.Sees P δ u y →
      (∀ v P' δ' h' tk', (∀ b o, P b o → P' b o) → δ <+: δ' → Inv g R P' δ' env ρ σ' h' → S P' δ' v → Q v { s with heap := h', toks := tk' }) → wpAny (model g.prog g.w) A (t [v, u]) Q NoE s) : Op g n σ [x, y] t S σ' := by
  intro env ρ A R P δ s Q vs hA I hv h
  obtain ⟨v, u, rfl, a, b⟩ := hv.two
  exact k env ρ A R P δ s Q v u hA I a b h
-- numbers
theorem op_add_int {a b : Int} : Op2 g n σ (binaryOp .Add) (.int a) (.int b) (.int (a + b)) σ := .of fun env ρ A R P δ s Q v u hA I hv hu h => by
  obtain ⟨t, rfl⟩ := hv.tells
  obtain ⟨u, rfl⟩ := hu.tells
  exact PyProof.Rows.add_int (stay _ I h (.int _ _))
theorem op_iadd_int {a b : Int} : Op2 g n σ (inplaceOp .Add) (.int a) (.int b) (.int (a + b)) σ := .of fun env ρ A R P δ s Q v u hA I hv hu h => by
  obtain ⟨t, rfl⟩ := hv.tells
  obtain ⟨u, rfl⟩ := hu.tells
  exact PyProof.Rows.iadd_int (stay _ I h (.int _ _))
theorem op_mod_int {a b : Int} (hb : 0 < b) : Op2 g n σ (binaryOp .Mod) (.int a) (.int b) (.int (a % b)) σ := .of fun env ρ A R P δ s Q v u hA I hv hu h => by
  obtain ⟨t, rfl⟩ := hv.tells
  obtain ⟨u, rfl⟩ := hu.tells
  refine mod_int' (by omega) ?_
  rw [Int.fmod_eq_emod_of_nonneg _ (by omega)]
  exact stay _ I h (.int _ _)
theorem op_div_int {a b : Int} (hb : 0 < b) (hz : b < 1073741824) : Op2 g n σ (binaryOp .FloorDiv) (.int a) (.int b) (.int (a / b)) σ := .of fun env ρ A R P δ s Q v u hA I hv hu h => by
  obtain ⟨t, rfl⟩ := hv.tells
  obtain ⟨u, rfl⟩ := hu.tells
  refine floordiv_int (by omega) ?_ (.inl (PyProof.noPylong_small (by omega)))
  rw [Int.fdiv_eq_ediv_of_nonneg _ (by omega)]
  exact stay _ I h (.int _ _)
theorem op_lt_int {a b : Int} : Op2 g n σ (compareOp .Lt) (.int a) (.int b) (.bool (decide (a < b))) σ := .of fun env ρ A R P δ s Q v u hA I hv hu h => by
  obtain ⟨t, rfl⟩ := hv.tells
  obtain ⟨u, rfl⟩ := hu.tells
  exact PyProof.Rows.lt_int (stay s.toks I h (.bool _))
theorem op_gt_int {a b : Int} : Op2 g n σ (compareOp .Gt) (.int a) (.int b) (.bool (decide (b < a))) σ := .of fun env ρ A R P δ s Q v u hA I hv hu h => by
  obtain ⟨t, rfl⟩ := hv.tells
  obtain ⟨u, rfl⟩ := hu.tells
  exact PyProof.Rows.gt_int (stay s.toks I h (.bool _))
theorem op_eq_int {a b : Int} : Op2 g n σ (compareOp .Eq) (.int a) (.int b) (.bool (a == b)) σ := op_eq (m := 0) (.int _ _ _) (by decide)
theorem op_isnot_bool {a b : Bool} : Op2 g n σ (compareOp .IsNot) (.bool a) (.bool b) (.bool (a != b)) σ := .of fun env ρ A R P δ s Q v u hA I hv hu h => by
  obtain rfl := hv.tells
  obtain rfl := hu.tells
  exact isnot_bool (stay s.toks I h (.bool _))
theorem tr_bool {b : Bool} : Tr g n σ (.bool b) b := .of fun env ρ A R P δ s Q v hA I hv h => by
  obtain rfl := hv.tells
  exact wpAny_truthy_bool (h P δ s.heap s.toks (fun _ _ z => z) (List.prefix_refl _) I)
theorem tr_none : Tr g n σ .none false := .of fun env ρ A R P δ s Q v hA I hv h => by
  obtain rfl := hv.tells
  exact PyProof.Rows.truthy_none (h P δ s.heap s.toks (fun _ _ z => z) (List.prefix_refl _) I)
theorem ev_neg1 {p p' : Pos} {k : Nat} : Ev g sc n (.UnaryOp .USub (.Constant (.int 1) k p) p') ρ σ (.int (-1)) σ := by
  refine ev_un ev_int (.of fun env ρ A R P δ s Q v hA I hv h => ?_)
  obtain ⟨t, rfl⟩ := hv.tells
  exact PyProof.Rows.neg_int (stay _ I h (.int _ _))
theorem op_abs {a : Int} : Op g n σ [.int a] (fun vs => call (.builtin "abs") vs) (fun P δ v => g.Sees P δ v (.int a.natAbs)) σ := .one fun env ρ A R P δ s Q v hA I hv h => by
  obtain ⟨t, rfl⟩ := hv.tells
  refine call_abs_int fun u tk => ?_
  have e : (if a < 0 then -a else a) = (a.natAbs : Int) := by split <;> omega
  rw [e]
  exact stay tk I h (.int _ _)
theorem op_chr {a : Int} (h0 : 0 ≤ a) (h1 : a < 256) : Op g n σ [.int a] (fun vs => call (.builtin "chr") vs) (fun P δ v => g.Sees P δ v (.tx .s [UInt8.ofNat a.toNat])) σ := .one fun env ρ A R P δ s Q v hA I hv h => by
  obtain ⟨t, rfl⟩ := hv.tells
  refine PySem.P.chr_of_int (by rw [decide_eq_false (by omega), decide_eq_false (by omega)]; rfl) ?_
  have e : (⟨#[a.toNat]⟩ : Str) = S8 [UInt8.ofNat a.toNat] := by
    unfold S8
    have : (UInt8.ofNat a.toNat).toNat = a.toNat := by rw [UInt8.toNat_ofNat']; omega
    simp [this]
  rw [e]
  exact stay _ I h (.str _ _)
theorem op_iadd_tx_s {a b : List UInt8} (hz : a.length + b.length ≤ 16777216) : Op2 g n σ (inplaceOp .Add) (.tx .s a) (.tx .s b) (.tx .s (a ++ b)) σ := .of fun env ρ A R P δ s Q v u hA I hv hu h => by
  obtain ⟨t, rfl⟩ := hv.tells
  obtain ⟨u, rfl⟩ := hu.tells
  refine SB.iadd (fun t' k => ?_) (by rw [S8_len, S8_len, sizeLine_eq]; exact hz)
  rw [S8_append]
  exact stay k I h (.str _ _)

-- slices
noncomputable def EvP (g : Glo) (sc : Scope) (n : Nat) (e : Option Expr) (ρ : Loc) (σ : List MO) (i : Option Int) : Prop := Run g sc n (evalPart e) ρ σ (fun P δ v => IsPart v i) σ
theorem evp_none : EvP g sc n none ρ σ none := .mk fun env A R P δ s Q O hA I h => wpAny_evalPart_none (stay s.toks I h .none)
theorem evp_some {e : Expr} {i : Int} (he : Ev g sc n e ρ σ (.int i) σ) : EvP g sc n (some e) ρ σ (some i) := .mk fun env A R P δ s Q O hA I h =>
  wpAny_evalPart_some (he.run env A R P δ s Q O hA I fun v P₁ δ₁ hh₁ tk₁ le₁ pr₁ I₁ s₁ => by
    obtain ⟨t, rfl⟩ := s₁.tells
    exact h _ P₁ δ₁ hh₁ tk₁ le₁ pr₁ I₁ (.int _ _))
theorem SeesL.psl {vs : List Value} {xs : List V} (h : g.SeesL P δ vs xs) (lo hi : Option Int) : g.SeesL P δ (Mine.psl vs lo hi) (Mine.psl xs lo hi) := by
  unfold Mine.psl
  rw [h.length]
  exact (SeesL.drop _ h).take _
theorem part_of {v : Value} {i : Option Int} (h : IsPart v i) : ∃ l : Option (Int × Tok), v = partValue l ∧ l.map (·.1) = i := by
  cases h with
  | none => exact ⟨none, rfl, rfl⟩
  | int i t => exact ⟨some (i, t), rfl, rfl⟩
/-- the slices of a kind of text -/
noncomputable def SlcT (g : Glo) (k : Kd) : Prop := ∀ (P : PS) (δ : List Addr) (A : Around) (s : Shared) (Q : Value → Shared → Prop) (v vl vu : Value) (a : Addr) (l : List UInt8) (lo hi : Option Int), g.Sees P δ v (.tx k l) → IsPart vl lo → IsPart vu hi → s.heap.IsSliceOf a vl vu .none → l.length ≤ 16777216 →
  (∀ r k', g.Sees P δ r (.tx k (psl l lo hi)) → Q r { s with toks := k' }) → wpAny (model g.prog g.w) A (getItem v (.ref a)) Q NoE s
theorem slct_s : SlcT g .s := fun P δ A s Q v vl vu a l lo hi hv pl pu hsl hz h => by
  obtain ⟨t, rfl⟩ := hv.tells
  obtain ⟨l', rfl, rfl⟩ := part_of pl
  obtain ⟨u', rfl, rfl⟩ := part_of pu
  refine wpAny_getItem_str_slice (l := l') (u := u') (st := none) (by obtain ⟨o, a, b, c⟩ := hsl; exact ⟨o, a, b, c⟩) rfl (post_val_or_str ⟨?_, fun t' k => ?_⟩)
  · exact Nat.le_trans (Txt.slice_le _ _ _) (by rw [S8_len, sizeLine_eq]; exact hz)
  · show Q (.str (Txt.slice (S8 l) _ _) t') _
    rw [txt_slice, S8_list, psl_map]
    exact h _ k (.str _ _)
theorem slc_core {value : Expr} {lower upper : Option Expr} {p pos : Pos} {x y : V} {lo hi : Option Int} (h1 : Ev g sc n value ρ σ x σ₁) (h2 : EvP g sc n lower ρ σ₁ lo) (h3 : EvP g sc n upper ρ σ₁ hi) (hx : Seq σ₁ x)
    (K : ∀ (A : Around) (R : RS) (P : PS) (δ : List Addr) (env : Env) (s : Shared) (Q : Value → Shared → Prop) (v vl vu : Value) (a : Addr), Inv g R P δ env ρ σ₁ s.heap → g.Sees P δ v x → IsPart vl lo → IsPart vu hi → s.heap.IsSliceOf a vl vu .none →
      (∀ r P' δ' h' tk', (∀ b o, P b o → P' b o) → δ <+: δ' → Inv g R P' δ' env ρ σ₁ h' → g.Sees P' δ' r y → Q r { s with heap := h', toks := tk' }) → wpAny (model g.prog g.w) A (getItem v (.ref a)) Q NoE s) :
    Ev g sc n (.Subscript value (.Slice lower upper none p) pos) ρ σ y σ₁ := by
  refine .mk ?_
  intro env A R P δ s Q O hA I h
  refine Subscript_ (h1.run env A R P δ s _ O hA I fun v P₁ δ₁ hh₁ tk₁ le₁ pr₁ I₁ s₁ => ?_)
  refine wpAny_Slice (h2.run env A R P₁ δ₁ _ _ O hA I₁ fun vl P₂ δ₂ hh₂ tk₂ le₂ pr₂ I₂ pl => ?_)
  refine h3.run env A R P₂ δ₂ _ _ O hA I₂ fun vu P₃ δ₃ hh₃ tk₃ le₃ pr₃ I₃ pu => ?_
  refine wpAny_evalPart_none ?_
  have hv := (s₁.mono le₂ pr₂).mono le₃ pr₃
  have I₄ := I₃.grows fun b o e => Heap.get?_push_of_some { cls := .type "slice", data := .fields #[vl, vu, .none] } e
  obtain ⟨T, id, hT, hl⟩ := I₄.itemed (s := { s with heap := hh₃.push _, toks := tk₃ }) hx hv
  obtain ⟨ops, hs⟩ := subscripted_ops (.Slice lower upper none p) v (.ref hh₃.objs.size)
  refine tail_any hT hl ?_ hs
  exact K A R P₃ δ₃ env { s with heap := hh₃.push _, toks := tk₃ } Q v vl vu _ I₄ hv pl pu (Heap.IsSliceOf.new hh₃ vl vu .none) fun r P' δ' h' tk' le' pr' I' s' => h r P' δ' h' tk' (fun b o z => le' b o (le₃ b o (le₂ b o (le₁ b o z)))) (((pr₁.trans pr₂).trans pr₃).trans pr') I' s'
theorem ev_slc {value : Expr} {lower upper : Option Expr} {p pos : Pos} {k : Kd} {l : List UInt8} {lo hi : Option Int} (T : SlcT g k) (h1 : Ev g sc n value ρ σ (.tx k l) σ₁) (h2 : EvP g sc n lower ρ σ₁ lo) (h3 : EvP g sc n upper ρ σ₁ hi) (hz : l.length ≤ 16777216) :
    Ev g sc n (.Subscript value (.Slice lower upper none p) pos) ρ σ (.tx k (psl l lo hi)) σ₁ :=
  slc_core h1 h2 h3 .tx fun A R P δ env s Q v vl vu a I hv pl pu hsl h => T P δ A s Q v vl vu a l lo hi hv pl pu hsl hz fun r k' hr => h r P δ s.heap k' (fun _ _ z => z) (List.prefix_refl _) I hr
theorem ev_slcL {value : Expr} {lower upper : Option Expr} {p pos : Pos} {l : List V} {lo hi : Option Int} (h1 : Ev g sc n value ρ σ (.list l) σ₁) (h2 : EvP g sc n lower ρ σ₁ lo) (h3 : EvP g sc n upper ρ σ₁ hi) (hz : l.length ≤ 16777216) :
    Ev g sc n (.Subscript value (.Slice lower upper none p) pos) ρ σ (.list (psl l lo hi)) σ₁ :=
  slc_core h1 h2 h3 (.lst (.inl rfl)) fun A R P δ env s Q v vl vu a I hv pl pu hsl h => by
    obtain ⟨a, vs, rfl, hl, hs'⟩ := I.listOf (.inl rfl) hv
    have hlen := hs'.length
    refine wpAny_getItem_list_slice hl hsl pl pu .none (by simp) ?_ (by rw [sizeLine_eq]; simp; omega)
    have e : slicePick vs.toArray lo hi none = (psl vs lo hi).toArray := by
      rw [slicePick_plain]; unfold psl; simp
    rw [e]
    exact h _ _ δ _ s.toks pin_le (List.prefix_refl _) (I.pushPin _) (.mkList pin_at rfl rfl ((SeesL.psl hs' lo hi).mono pin_le (List.prefix_refl _)))

-- kinds
theorem op_type {k : Kd} {l : List UInt8} : Op g n σ [.tx k l] (fun vs => call (.type "type") vs) (fun P δ v => g.Sees P δ v (.ty k.name)) σ := .one fun env ρ A R P δ s Q v hA I hv h => by
  cases k with
  | s => obtain ⟨t, rfl⟩ := hv.tells; exact call_type_of (typeIs_str _ _ _) (by decide +kernel) (stay s.toks I h (.ty _))
  | b => obtain ⟨t, rfl⟩ := hv.tells; exact call_type_of (typeIs_bytes _ _ _) (by decide +kernel) (stay s.toks I h (.ty _))
theorem op_isbytes {k : Kd} {l : List UInt8} : Op g n σ [.tx k l, .ty "bytes"] (fun vs => call (.builtin "isinstance") vs) (fun P δ v => g.Sees P δ v (.bool (k == .b))) σ := .two fun env ρ A R P δ s Q v u hA I hv hu h => by
  obtain rfl := hu.tells
  cases k with
  | s => obtain ⟨t, rfl⟩ := hv.tells; exact call_isinstance (isinstance_false_str (by decide) meta_bytes sub_sb) (show Q (.bool false) _ from stay (s.toks + 1) I h (.bool false))
  | b => obtain ⟨t, rfl⟩ := hv.tells; exact call_isinstance_yes (typeIs_bytes _ _ _) meta_bytes sub_bb (stay s.toks I h (.bool _))
theorem op_issub {k : Kd} : Op g n σ [.ty k.name, .tup [.ty "str", .ty "bytes"]] (fun vs => call (.builtin "issubclass") vs) (fun P δ v => g.Sees P δ v (.bool true)) σ := .two fun env ρ A R P δ s Q v u hA I hv hu h => by
  obtain rfl := hv.tells
  obtain ⟨a, vs, rfl, ha, hs⟩ := I.tupOf hu
  obtain ⟨v, u, rfl, h1, h2⟩ := hs.two
  obtain rfl := h1.tells
  obtain rfl := h2.tells
  cases k with
  | s => exact call_issubclass ha sub_ss (fun e => nomatch e) (stay s.toks I h (.bool _))
  | b => exact call_issubclass ha sub_bs (fun _ => sub_bb) (stay s.toks I h (.bool _))
end
end Mine
end
section
open PySem PySem.W PyProof.Rows PySem.Calls PySem.SeqAt PySem.Builtin PySem.Builtin.Str
set_option Elab.async false
set_option linter.unusedVariables false
set_option maxRecDepth 100000
namespace Mine

/-- where what stands behind the last c begins -/
noncomputable def aft (c : UInt8) (l : List UInt8) : Nat := l.length - (l.reverse.takeWhile (· != c)).length
/-- cut at each c -/
noncomputable def spl (c : UInt8) : List UInt8 → List (List UInt8)
  | [] => [[]]
  | x :: r => if x = c then [] :: spl c r else match spl c r with
    | [] => [[x]]
    | p :: q => (x :: p) :: q
/-- glued -/
noncomputable def jn (sep : List UInt8) : List (List UInt8) → List UInt8
  | [] => []
  | [p] => p
  | p :: q :: r => p ++ sep ++ jn sep (q :: r)
/-- no c at its end -/
noncomputable def rst (c : UInt8) (l : List UInt8) : List UInt8 := (l.reverse.dropWhile (· == c)).reverse

theorem spl_ne (c : UInt8) : ∀ l, spl c l ≠ []
  | [] => by simp [spl]
  | x :: r => by
    unfold spl
    split
    · simp
    · split <;> simp
/-- the cut is the one way to take the text apart -/
theorem spl_free_only (c : UInt8) : ∀ (p : List UInt8), c ∉ p → spl c p = [p]
  | [], _ => rfl
  | x :: r, h => by
    have h1 : ¬ x = c := fun e => h (by rw [e]; exact List.mem_cons_self)
    unfold spl
    rw [if_neg h1, spl_free_only c r (fun z => h (List.mem_cons_of_mem _ z))]
theorem spl_append (c : UInt8) : ∀ (p l : List UInt8), c ∉ p → spl c (p ++ c :: l) = p :: spl c l
  | [], l, _ => by rw [List.nil_append, spl, if_pos rfl]
  | x :: r, l, h => by
    have h1 : ¬ x = c := fun e => h (by rw [e]; exact List.mem_cons_self)
    rw [List.cons_append, spl, if_neg h1, spl_append c r l (fun z => h (List.mem_cons_of_mem _ z))]
theorem spl_jn (c : UInt8) : ∀ (ps : List (List UInt8)), ps ≠ [] → (∀ p ∈ ps, c ∉ p) → spl c (jn [c] ps) = ps
  | [], h, _ => absurd rfl h
  | [p], _, h => spl_free_only c p (h p List.mem_cons_self)
  | p :: q :: r, _, h => by
    show spl c (p ++ [c] ++ jn [c] (q :: r)) = _
    rw [List.append_assoc]
    show spl c (p ++ c :: jn [c] (q :: r)) = _
    rw [spl_append c p _ (h p List.mem_cons_self), spl_jn c (q :: r) (by simp) (fun p hp => h p (List.mem_cons_of_mem _ hp))]

-- texts of the model and lists of octets
theorem subAt_one (l : List UInt8) (c : UInt8) (i : Nat) : subAt (S8 l) (S8 [c]) i = (l[i]? == some c) := by
  unfold subAt
  rw [Bool.eq_iff_iff, beq_iff_eq, beq_iff_eq]
  have e : ((S8 l).cps.extract i (i + (S8 [c]).length)).toList = ((l.map UInt8.toNat).drop i).take 1 := by
    rw [Array.toList_extract, S8_list, S8_len]
    simp [List.extract_eq_take_drop]
  rw [← Array.toList_inj, e, S8_list]
  constructor
  · intro h
    rw [← List.map_drop, ← List.map_take] at h
    have := map_toNat_inj h
    cases hd : l.drop i with
    | nil => rw [hd] at this; simp at this
    | cons x r =>
      rw [hd] at this
      have hx : x = c := by simpa using this
      have := congrArg (·[0]?) hd
      simp only [List.getElem?_drop] at this
      simpa [hx] using this
  · intro h
    have hi := (List.getElem?_eq_some_iff.mp h).1
    have hx := (List.getElem?_eq_some_iff.mp h).2
    rw [← List.map_drop, ← List.map_take, List.drop_eq_getElem_cons hi, hx]
    rfl
theorem at_one (l : List UInt8) (c : UInt8) (i : Nat) : StrLaws.At (S8 l) (S8 [c]) (S8 l).length i ↔ l[i]? = some c := by
  unfold StrLaws.At
  rw [subAt_one, S8_len, S8_len, beq_iff_eq]
  refine ⟨fun h => h.2, fun h => ⟨?_, h⟩⟩
  have := (List.getElem?_eq_some_iff.mp h).1
  show i + 1 ≤ _
  omega
theorem last_split (c : UInt8) : ∀ l : List UInt8, c ∈ l → ∃ a b, l = a ++ c :: b ∧ c ∉ b
  | x :: r, h => by
    by_cases hr : c ∈ r
    · obtain ⟨a, b, e, hb⟩ := last_split c r hr
      exact ⟨x :: a, b, by rw [e]; rfl, hb⟩
    · rcases List.mem_cons.mp h with rfl | h
      · exact ⟨[], r, rfl, hr⟩
      · exact absurd h hr
theorem takeWhile_free (c : UInt8) (b r : List UInt8) (h : c ∉ b) : (b ++ c :: r).takeWhile (· != c) = b := by
  rw [List.takeWhile_append_of_pos (by intro x hx; simp; rintro rfl; exact h hx)]
  simp
theorem aft_at (c : UInt8) (a b : List UInt8) (hb : c ∉ b) : aft c (a ++ c :: b) = a.length + 1 := by
  unfold aft
  have e : (a ++ c :: b).reverse = b.reverse ++ c :: a.reverse := by simp
  rw [e, takeWhile_free c _ _ (by simpa using hb)]
  simp; omega
theorem aft_none (c : UInt8) (l : List UInt8) (h : c ∉ l) : aft c l = 0 := by
  unfold aft
  have : ∀ r : List UInt8, c ∉ r → r.takeWhile (· != c) = r := by
    intro r hr
    have := List.takeWhile_append_of_pos (p := (· != c)) (l₁ := r) (l₂ := []) (by intro x hx; simp; rintro rfl; exact hr hx)
    simpa using this
  rw [this _ (by simpa using h)]; simp
theorem aft_spec (c : UInt8) (l : List UInt8) : (c ∉ l ∧ aft c l = 0) ∨ ∃ a b, l = a ++ c :: b ∧ c ∉ b ∧ aft c l = a.length + 1 := by
  by_cases h : c ∈ l
  · obtain ⟨a, b, rfl, hb⟩ := last_split c l h
    exact .inr ⟨a, b, rfl, hb, aft_at c a b hb⟩
  · exact .inl ⟨h, aft_none c l h⟩
theorem txt_rfind (l : List UInt8) (c : UInt8) : Txt.rfind (S8 l) (S8 [c]) = (aft c l : Int) - 1 := by
  rcases rfind_whole (S8 l) (S8 [c]) with ⟨h, hn⟩ | ⟨i, h, hi, hn⟩
  · rw [h]
    rcases aft_spec c l with ⟨_, e⟩ | ⟨a, b, e, _, _⟩
    · rw [e]; rfl
    · exact absurd ((at_one l c a.length).mpr (by rw [e]; simp)) (hn _)
  · rw [h]
    have hi := (at_one l c i).mp hi
    rcases aft_spec c l with ⟨e, _⟩ | ⟨a, b, e, hb, e'⟩
    · exact absurd (List.mem_of_getElem? hi) e
    · rw [e']
      have : i = a.length := by
        rcases Nat.lt_trichotomy i a.length with hlt | h | hgt
        · exact absurd ((at_one l c a.length).mpr (by rw [e]; simp)) (hn _ hlt)
        · exact h
        · rw [e, List.getElem?_append_right (by omega)] at hi
          obtain ⟨k, hk⟩ : ∃ k, i - a.length = k + 1 := ⟨i - a.length - 1, by omega⟩
          rw [hk, List.getElem?_cons_succ] at hi
          exact absurd (List.mem_of_getElem? hi) hb
      omega
theorem txt_starts (l : List UInt8) (c : UInt8) : Txt.startswith (S8 l) (S8 [c]) = (l.head? == some c) := by
  unfold Txt.startswith
  rw [subAt_one, S8_len, S8_len]
  cases l with
  | nil => rfl
  | cons x r => simp
theorem txt_ends (l : List UInt8) (c : UInt8) : Txt.endswith (S8 l) (S8 [c]) = (l.getLast? == some c) := by
  unfold Txt.endswith
  rw [subAt_one, S8_len, S8_len, List.getLast?_eq_getElem?]
  cases l with
  | nil => rfl
  | cons x r => simp
theorem txt_rstrip (l : List UInt8) (c : UInt8) : Txt.rstripChars (S8 l) (S8 [c]) = S8 (rst c l) := by
  unfold Txt.rstripChars
  rw [PyProof.Rows.stripBy_eq]
  have hg : ∀ x : UInt8, (S8 [c]).cps.contains x.toNat = (x == c) := by
    intro x
    show (#[c.toNat] : Array Nat).contains x.toNat = _
    rw [Bool.eq_iff_iff]
    simp [UInt8.toNat_inj]
  have e : ((S8 l).cps.toList.drop (stripLo (S8 [c]).cps.contains false (S8 l))).reverse.takeWhile (S8 [c]).cps.contains = (l.reverse.takeWhile (· == c)).map UInt8.toNat := by
    show ((S8 l).cps.toList.drop 0).reverse.takeWhile _ = _
    rw [List.drop_zero, S8_list, ← List.map_reverse, List.takeWhile_map]
    congr 2
    funext x
    exact hg x
  apply Str.ext'
  apply Array.toList_inj.mp
  rw [StrLaws.strSub_toList]
  show ((S8 l).cps.toList.drop 0).take _ = _
  rw [List.drop_zero]
  unfold stripHi
  rw [if_pos rfl, e, S8_list, S8_list, ← List.map_take]
  congr 1
  unfold rst
  rw [S8_len, List.length_map]
  show l.take (l.length - _ - 0) = _
  rw [Nat.sub_zero]
  have h1 := List.takeWhile_append_dropWhile (p := (· == c)) (l := l.reverse)
  have h2 : l = (l.reverse.dropWhile (· == c)).reverse ++ (l.reverse.takeWhile (· == c)).reverse := by
    rw [← List.reverse_append, h1, List.reverse_reverse]
  have h3 : l.length = (l.reverse.dropWhile (· == c)).length + (l.reverse.takeWhile (· == c)).length := by
    have := congrArg List.length h2
    simpa using this
  have h4 : (l.reverse.dropWhile (· == c)).reverse = (((l.reverse.dropWhile (· == c)).reverse ++ (l.reverse.takeWhile (· == c)).reverse)).take (l.length - (l.reverse.takeWhile (· == c)).length) := by
    rw [List.take_left']
    simp; omega
  rw [← h2] at h4
  exact h4.symm
theorem txt_join (sep : List UInt8) : ∀ (ps : List (List UInt8)), Str.join (S8 sep) (ps.map S8) = S8 (jn sep ps)
  | [] => rfl
  | [p] => rfl
  | p :: q :: r => by
    have ih := txt_join sep (q :: r)
    show S8 p ++ S8 sep ++ Str.join (S8 sep) ((q :: r).map S8) = _
    rw [ih, S8_append, S8_append]
    rfl
end Mine
end
section
open PySem PySem.W PyProof.Rows PySem.Calls PySem.SeqAt PySem.Builtin PySem.Builtin.Str
set_option Elab.async false
set_option linter.unusedVariables false
set_option maxRecDepth 100000
namespace Mine

/-- a method, called -/
noncomputable def MOp (g : Glo) (n : Nat) (σ : List MO) (name : Str) (x : V) (xs : List V) (y : V) (σ' : List MO) : Prop :=
  ∃ (T id : String), PlainAttrs T ∧ Slot T name id ∧ typeOf (.builtin id) = pure (.type "method_descriptor") ∧
    (∀ (R : RS) (P : PS) (δ : List Addr) (env : Env) (ρ : Loc) (s : Shared) (v : Value), Inv g R P δ env ρ σ s.heap → g.Sees P δ v x → s.TypeIs v T ∧ ∀ a, v = .ref a → ∃ ob, s.heap.get? a = some ob ∧ ob.dict = none) ∧
    Op g n σ (x :: xs) (fun vs => call (.builtin id) vs) (fun P δ v => g.Sees P δ v y) σ'

section
variable {g : Glo} {R : RS} {P : PS} {δ : List Addr} {env : Env} {ρ : Loc} {σ σ' σ₁ σ₂ σ₃ : List MO} {h : Heap} {sc : Scope} {n : Nat}

theorem ev_meth {o : Expr} {name : Str} {apos pos : Pos} {args : List Expr} {x y : V} {xs : List V} (h1 : Ev g sc n o ρ σ x σ) (h2 : EvL g sc n pos args ρ σ xs σ) (hm : MOp g n σ name x xs y σ')
    (hbase : ∀ env, attributeBase o name env (eval o env) = eval o env := by intro _; rfl) (hp : noStar args = true := by rfl) (hlen : decide (args.length < 29) = true := by rfl) (hline : (apos.endLine == pos.line) = true := by rfl) :
    Ev g sc n (.Call (.Attribute o name apos) args [] pos) ρ σ y σ' := by
  refine .mk ?_
  intro env A R P δ s Q O hA I h
  obtain ⟨T, bid, pa, slot, ty, hT, hop⟩ := hm
  have hfew : ((backTo pos (starEach args env)).all (fun x => !x.1) && (backToKw pos (keywordEach [] env)).all (fun x => x.1.isSome)
      && decide (args.length + ([] : List Keyword).length + (if ([] : List Keyword).isEmpty then 0 else 1) < 30)) = true := by
    have e1 : (backTo pos (starEach args env)).all (fun x => !x.1) = true := by
      have := noStar_any (env := env) (pos := pos) hp
      rw [List.any_eq_false] at this
      rw [List.all_eq_true]
      intro z hz
      simpa using this z hz
    have e2 : decide (args.length + ([] : List Keyword).length + (if ([] : List Keyword).isEmpty then 0 else 1) < 30) = true := by
      have := of_decide_eq_true hlen
      apply decide_eq_true
      simp; omega
    rw [e1, e2]; rfl
  refine wpAny_Call_method_lateS (hbase env) hfew hline ?_
  refine h1.run env A R P δ s _ O hA I fun v P₁ δ₁ hh₁ tk₁ le₁ pr₁ I₁ s₁ => ?_
  obtain ⟨t1, t2⟩ := hT R P₁ δ₁ env ρ { s with heap := hh₁, toks := tk₁ } v I₁ s₁
  refine ⟨T, bid, pa, slot, ty, t1, t2, ?_⟩
  refine Calls.callWith_builtin (noStar_any hp) (evalArgs_first (noStar_first hp) ?_)
  refine h2.run env A R P₁ δ₁ _ _ O hA I₁ fun vs P₂ δ₂ hh₂ tk₂ le₂ pr₂ I₂ s₂ => ?_
  exact hop env ρ A R P₂ δ₂ { s with heap := hh₂, toks := tk₂ } Q (v :: vs) hA I₂ (.cons (s₁.mono le₂ pr₂) s₂) fun r P₃ δ₃ hh₃ tk₃ le₃ pr₃ I₃ s₃ => h r P₃ δ₃ hh₃ tk₃ (fun b o z => le₃ b o (le₂ b o (le₁ b o z))) ((pr₁.trans pr₂).trans pr₃) I₃ s₃

/-- the methods of a kind of text that the code calls, at one octet -/
structure TxOps (g : Glo) (k : Kd) : Prop where
  slc : SlcT g k
  add : ∀ n σ a b, a.length + b.length ≤ 16777216 → Op2 g n σ (binaryOp .Add) (.tx k a) (.tx k b) (.tx k (a ++ b)) σ
  mul : ∀ n σ a (m : Nat), a ≠ [] → a.length ≤ 16 → m ≤ 1048576 → Op2 g n σ (binaryOp .Mult) (.tx k a) (.int (m : Int)) (.tx k (rep m a)) σ
  starts : ∀ n σ l c, MOp g n σ "startswith" (.tx k l) [.tx k [c]] (.bool (l.head? == some c)) σ
  ends : ∀ n σ l c, MOp g n σ "endswith" (.tx k l) [.tx k [c]] (.bool (l.getLast? == some c)) σ
  rfind : ∀ n σ l c, MOp g n σ "rfind" (.tx k l) [.tx k [c]] (.int ((aft c l : Int) - 1)) σ
  rstrip : ∀ n σ l c, l.length ≤ 16777216 → MOp g n σ "rstrip" (.tx k l) [.tx k [c]] (.tx k (rst c l)) σ
  split : ∀ n σ l c, l.length ≤ 16000000 → MOp g n σ "split" (.tx k l) [.tx k [c]] (.list ((spl c l).map (.tx k))) σ
  join : ∀ n σ l ps x, LV σ x (ps.map (.tx k)) → (ps.map fun p => p.length + l.length).sum ≤ 16777216 → MOp g n σ "join" (.tx k l) [x] (.tx k (jn l ps)) σ
  iadd : ∀ n σ a b, a.length + b.length ≤ 16777216 → Op2 g n σ (inplaceOp .Add) (.tx k a) (.tx k b) (.tx k (a ++ b)) σ

theorem recv_str {l : List UInt8} {s : Shared} {v : Value} (hv : g.Sees P δ v (.tx .s l)) : s.TypeIs v "str" ∧ ∀ a, v = .ref a → ∃ ob, s.heap.get? a = some ob ∧ ob.dict = none := by
  obtain ⟨t, rfl⟩ := hv.tells
  exact ⟨typeIs_str _ _ _, fun a e => nomatch e⟩

theorem str_split_raw {prog : Program} {w : World} {A : Around} {E : Value → Shared → Prop} {s : Shared} {x y : Str} {t u : Tok} {Q : Value → Shared → Prop} (hy : (y.length == 0) = false)
    (hq : ∀ l k, l.map (·.1) = Txt.split x y → Q (.ref s.heap.objs.size) { s with heap := s.heap.push { cls := .type "list", data := .seq (strValues l).toArray }, toks := k })
    (hsz : x.length ≤ sizeLine) (hsz2 : (decide (x.length < y.length) || decide (PySem.Builtin.Str.strKind x < PySem.Builtin.Str.strKind y)) = false → (partsBetween x (occurrences x y 0 x.length (x.length + 1)) y.length).length ≤ sizeLine) :
    wpAny (model prog w) A (call (.builtin "str.split") [.str x t, .str y u]) Q E s := by
  cases h1 : (decide (x.length < y.length) || decide (PySem.Builtin.Str.strKind x < PySem.Builtin.Str.strKind y))
  · cases hf : (occurrences x y 0 x.length (x.length + 1)).isEmpty
    · refine call_meets F.slot_str_split (typeIs_str _ _ _) F.entry_str_split (F.args_str_split_2 _ _) (meets_str_split_sep x y t u h1 hy hf hsz (hsz2 h1)) ?_
      show wants Q E _ { s with toks := _, heap := s.heap.push { cls := .type "list", data := .seq (strsFrom s.toks (partsBetween x (occurrences x y 0 x.length (x.length + 1)) y.length)).toArray } }
      rw [strsFrom_eq]
      exact hq (numbered s.toks _) _ ((numbered_texts _ _).trans ((if_neg (ne_true_of_eq_false h1)).trans (if_neg (ne_true_of_eq_false hf))).symm)
    · exact call_meets F.slot_str_split (typeIs_str _ _ _) F.entry_str_split (F.args_str_split_2 _ _) (meets_str_split_not_found x y t u h1 hy hf)
        (hq [(x, t)] s.toks ((if_neg (ne_true_of_eq_false h1)).trans (if_pos hf)).symm)
  · exact call_meets F.slot_str_split (typeIs_str _ _ _) F.entry_str_split (F.args_str_split_2 _ _) (meets_str_split_cannot_occur x y t u h1)
      (hq [(x, t)] s.toks (if_pos h1).symm)

theorem txt_split (l : List UInt8) (c : UInt8) : Txt.split (S8 l) (S8 [c]) = (spl c l).map S8 := by
  have hj := StrLaws.join_split (S8 l) (S8 [c])
  have hf : ∀ p ∈ Txt.split (S8 l) (S8 [c]), c.toNat ∉ p.cps.toList := StrLaws.split_free (S8 l) c.toNat
  have hne : Txt.split (S8 l) (S8 [c]) ≠ [] := by
    intro h0
    unfold Txt.split at h0
    split at h0
    · cases h0
    · split at h0
      · cases h0
      · rename_i hh
        rw [List.isEmpty_iff] at hh
        have := congrArg List.length h0
        simp [partsBetween] at this
  -- each part is of octets
  have hoct : ∀ ps : List Str, (∀ p ∈ ps, ∃ q, p = S8 q) → ∃ qs : List (List UInt8), ps = qs.map S8 := by
    intro ps
    induction ps with
    | nil => intro _; exact ⟨[], rfl⟩
    | cons p r ih =>
      intro h
      obtain ⟨q, rfl⟩ := h p List.mem_cons_self
      obtain ⟨qs, rfl⟩ := ih fun p hp => h p (List.mem_cons_of_mem _ hp)
      exact ⟨q :: qs, rfl⟩
  have hpart : ∀ (ps : List Str) (l : List UInt8), Str.join (S8 [c]) ps = S8 l → ∀ p ∈ ps, ∃ q, p = S8 q := by
    have hcut : ∀ (a b : Str) (l : List UInt8), a ++ b = S8 l → ∃ p q, a = S8 p ∧ b = S8 q := by
      intro a b l e
      have e' := congrArg (fun x : Str => x.cps.toList) e
      simp only [Str.cps_append, Array.toList_append, S8_list] at e'
      obtain ⟨p, q, _, h2, h3⟩ := List.append_eq_map_iff.mp e'
      refine ⟨p, q, ?_, ?_⟩
      · apply Str.ext'; apply Array.toList_inj.mp; rw [S8_list]; exact h2.symm
      · apply Str.ext'; apply Array.toList_inj.mp; rw [S8_list]; exact h3.symm
    intro ps
    induction ps with
    | nil => intro _ _ p hp; cases hp
    | cons p r ih =>
      intro l e q hq
      cases r with
      | nil =>
        have : q = p := by simpa using hq
        rw [this]; exact ⟨l, e⟩
      | cons p' r' =>
        have e : p ++ S8 [c] ++ Str.join (S8 [c]) (p' :: r') = S8 l := e
        obtain ⟨a, b, ha, hb⟩ := hcut _ _ _ e
        obtain ⟨a', _, ha', _⟩ := hcut _ _ _ ha
        rcases List.mem_cons.mp hq with rfl | hq
        · exact ⟨a', ha'⟩
        · exact ih b hb q hq
  obtain ⟨qs, hqs⟩ := hoct _ (hpart _ l hj)
  rw [hqs] at hj hf hne ⊢
  rw [txt_join] at hj
  have hj' : jn [c] qs = l := by
    have := S8_beq (jn [c] qs) l
    rw [hj] at this
    simpa using this
  have hqne : qs ≠ [] := by rintro rfl; exact hne rfl
  have hfree : ∀ q ∈ qs, c ∉ q := by
    intro q hq hc
    refine hf (S8 q) (List.mem_map_of_mem hq) ?_
    rw [S8_list]
    exact List.mem_map_of_mem hc
  rw [← hj', spl_jn c qs hqne hfree]

theorem sees_strs : ∀ (l : List (Str × Tok)) (ps : List (List UInt8)), l.map (·.1) = ps.map S8 → g.SeesL P δ (strValues l) (ps.map (.tx .s))
  | [], [], _ => .nil
  | p :: r, q :: qs, e => by
    injection e with e1 e2
    obtain ⟨a, t⟩ := p
    simp only at e1
    subst e1
    exact .cons (.str q t) (sees_strs r qs e2)
  | [], _ :: _, e => by cases e
  | _ :: _, [], e => by cases e
theorem strs_seen : ∀ {vs : List Value} (ps : List (List UInt8)), g.SeesL P δ vs (ps.map (.tx .s)) → ∃ l : List (Str × Tok), vs = strValues l ∧ l.map (·.1) = ps.map S8
  | vs, [], h => ⟨[], by rw [SeesL.nil_inv h]; rfl, rfl⟩
  | vs, p :: ps, h => by
    obtain ⟨v, us, rfl, h1, h2⟩ := SeesL.cons_inv h
    obtain ⟨t, rfl⟩ := h1.tells
    obtain ⟨l, rfl, e⟩ := strs_seen ps h2
    exact ⟨(S8 p, t) :: l, rfl, by simp [e]⟩

theorem spl_length (c : UInt8) : ∀ l, (spl c l).length ≤ l.length + 1
  | [] => by simp [spl]
  | x :: r => by
    have ih := spl_length c r
    unfold spl
    split
    · simp; omega
    · split
      · simp
      · rename_i e; rw [e] at ih; simp at ih ⊢; omega

theorem joinok (sep : List UInt8) (ps : List (List UInt8)) (h : (ps.map fun p => p.length + sep.length).sum ≤ 16777216) : JoinOk (S8 sep) (ps.map S8) = true := by
  unfold JoinOk tooLong
  have : ∀ (ps : List (List UInt8)) (k : Nat), (ps.map S8).foldl (fun acc p => acc + p.length + (S8 sep).length) k = k + (ps.map fun p => p.length + sep.length).sum := by
    intro ps
    induction ps with
    | nil => intro k; simp
    | cons p r ih => intro k; simp only [List.map_cons, List.foldl_cons, List.sum_cons]; rw [ih, S8_len, S8_len]; omega
  have e := this ps 0
  simp only [List.size_toArray, List.foldl_toArray'] at *
  rw [e]
  simp only [Bool.not_eq_true', decide_eq_false_iff_not]
  first | omega | (rw [sizeLine_eq]; omega)

theorem txops_s : TxOps g .s where
  slc := slct_s
  add := fun n σ a b hz => op_add_s hz
  mul := fun n σ a m h1 h2 h3 => op_mul_s h1 h2 h3
  starts := fun n σ l c => ⟨"str", "str.startswith", F.plainAttrs_str, F.slot_str_startswith, F.type_str_startswith, fun _ _ _ _ _ _ _ _ hv => recv_str hv, .two fun env ρ A R P δ s Q v u hA I hv hu h => by
    obtain ⟨t, rfl⟩ := hv.tells
    obtain ⟨u, rfl⟩ := hu.tells
    refine SC.startswith ?_
    rw [txt_starts]
    exact stay s.toks I h (.bool _)⟩
  ends := fun n σ l c => ⟨"str", "str.endswith", F.plainAttrs_str, F.slot_str_endswith, F.type_str_endswith, fun _ _ _ _ _ _ _ _ hv => recv_str hv, .two fun env ρ A R P δ s Q v u hA I hv hu h => by
    obtain ⟨t, rfl⟩ := hv.tells
    obtain ⟨u, rfl⟩ := hu.tells
    refine SC.endswith ?_
    rw [txt_ends]
    exact stay s.toks I h (.bool _)⟩
  rfind := fun n σ l c => ⟨"str", "str.rfind", F.plainAttrs_str, F.slot_str_rfind, F.type_str_rfind, fun _ _ _ _ _ _ _ _ hv => recv_str hv, .two fun env ρ A R P δ s Q v u hA I hv hu h => by
    obtain ⟨t, rfl⟩ := hv.tells
    obtain ⟨u, rfl⟩ := hu.tells
    refine SC.rfind ?_
    rw [txt_rfind]
    exact stay _ I h (.int _ _)⟩
  rstrip := fun n σ l c hz => ⟨"str", "str.rstrip", F.plainAttrs_str, F.slot_str_rstrip, F.type_str_rstrip, fun _ _ _ _ _ _ _ _ hv => recv_str hv, .two fun env ρ A R P δ s Q v u hA I hv hu h => by
    obtain ⟨t, rfl⟩ := hv.tells
    obtain ⟨u, rfl⟩ := hu.tells
    refine SC.rstripChars (fun t' k => ?_) (by rw [S8_len, sizeLine_eq]; exact hz)
    rw [txt_rstrip]
    exact stay _ I h (.str _ _)⟩
  split := fun n σ l c hz => ⟨"str", "str.split", F.plainAttrs_str, F.slot_str_split, F.type_str_split, fun _ _ _ _ _ _ _ _ hv => recv_str hv, .two fun env ρ A R P δ s Q v u hA I hv hu h => by
    obtain ⟨t, rfl⟩ := hv.tells
    obtain ⟨u, rfl⟩ := hu.tells
    refine str_split_raw (by rw [S8_len]; rfl) (fun l' k e => ?_) (by rw [S8_len, sizeLine_eq]; omega) ?_
    · rw [txt_split] at e
      exact h _ _ δ (s.heap.push _) k pin_le (List.prefix_refl _) (I.pushPin _) (.mkList pin_at rfl rfl (sees_strs l' _ e))
    · intro hk
      have e := txt_split l c
      unfold Txt.split at e
      have hl := spl_length c l
      by_cases h0 : (occurrences (S8 l) (S8 [c]) 0 (S8 l).length ((S8 l).length + 1)).isEmpty = true
      · rw [List.isEmpty_iff.mp h0, sizeLine_eq]; simp [partsBetween]
      · rw [hk] at e
        simp only [Bool.false_eq_true, if_false, if_neg h0] at e
        have := congrArg List.length e
        rw [List.length_map] at this
        rw [this, sizeLine_eq]; omega⟩
  join := fun n σ l ps x hx hz => ⟨"str", "str.join", F.plainAttrs_str, F.slot_str_join, F.type_str_join, fun _ _ _ _ _ _ _ _ hv => recv_str hv, .two fun env ρ A R P δ s Q v u hA I hv hu h => by
    obtain ⟨t, rfl⟩ := hv.tells
    obtain ⟨a, vs, rfl, hl, hs⟩ := I.listOf hx hu
    obtain ⟨l', rfl, e⟩ := strs_seen ps hs
    refine SC.join hl e (joinok l ps hz) (fun t' k => ?_)
    have : Txt.join (S8 l) (ps.map S8) = S8 (jn l ps) := by
      unfold Txt.join
      rw [StrLaws.glued_eq_join, txt_join]
    rw [this]
    exact stay _ I h (.str _ _)⟩
  iadd := fun n σ a b hz => op_iadd_tx_s hz

theorem erase_last (z : List Value) (y : Value) : (z ++ [y]).toArray.eraseIdxIfInBounds z.length = z.toArray := by
  apply Array.ext'
  have : (z ++ [y]).eraseIdx z.length = z := by
    rw [List.eraseIdx_append_of_length_le (Nat.le_refl _)]; simp
  simp [Array.eraseIdxIfInBounds, this]
-- lists that grow
theorem recv_cell {i : Nat} {xs : List V} {s : Shared} {v : Value} (I : Inv g R P δ env ρ σ s.heap) (hi : σ[i]? = some (.list xs)) (hv : g.Sees P δ v (.cell i)) : s.TypeIs v "list" ∧ ∀ a, v = .ref a → ∃ ob, s.heap.get? a = some ob ∧ ob.dict = none := by
  obtain ⟨a, rfl, ha⟩ := hv.tells
  obtain ⟨vs, ⟨m, h1⟩, h2⟩ := I.objs i a _ ha hi
  exact ⟨⟨_, h1, rfl⟩, fun b e => by cases e; exact ⟨_, h1, rfl⟩⟩
theorem mop_append {i : Nat} {xs : List V} {x : V} (hi : σ[i]? = some (.list xs)) (hz : xs.length ≤ 16777216) : MOp g n σ "append" (.cell i) [x] .none (σ.set i (.list (xs ++ [x]))) :=
  ⟨"list", "list.append", F.plainAttrs_list, F.slot_list_append, F.type_list_append, fun _ _ _ _ _ _ _ I hv => recv_cell I hi hv, .two fun env ρ A R P δ s Q v u hA I hv hu h => by
    obtain ⟨a, rfl, ha⟩ := hv.tells
    obtain ⟨vs, h1, h2⟩ := I.objs i a _ ha hi
    have hlen := h2.length
    refine wpAny_list_append_plain h1 (fun h' hp hs => ?_) (by rw [sizeLine_eq]; simp; omega)
    refine h .none P δ h' s.toks (fun _ _ z => z) (List.prefix_refl _) (I.setCell ha hs ⟨vs ++ [u], by simpa using hp, h2.append (.cons hu .nil)⟩) .none⟩
theorem mop_pop {i : Nat} {xs : List V} {x : V} (hi : σ[i]? = some (.list (xs ++ [x]))) (hz : xs.length < 16777216) : MOp g n σ "pop" (.cell i) [] x (σ.set i (.list xs)) :=
  ⟨"list", "list.pop", F.plainAttrs_list, F.slot_list_pop, F.type_list_pop, fun _ _ _ _ _ _ _ I hv => recv_cell I hi hv, .one fun env ρ A R P δ s Q v hA I hv h => by
    obtain ⟨a, rfl, ha⟩ := hv.tells
    obtain ⟨vs, ⟨m, h1⟩, h2⟩ := I.objs i a _ ha hi
    have hlen : vs.length = xs.length + 1 := by rw [h2.length]; simp
    have hlt : xs.length < vs.length := by omega
    obtain ⟨y, hy, hyx⟩ := h2.get (i := xs.length) (x := x) (by simp)
    have hy' : vs.toArray[vs.toArray.size - 1]? = some y := by
      have : vs.toArray.size - 1 = xs.length := by simp; omega
      rw [this]; simpa using hy
    refine call_meets PySem.F.slot_list_pop ⟨_, h1, rfl⟩ PySem.F.entry_list_pop (PySem.F.args_list_pop_1 _) (PySem.MeetsSeq.list_pop_last a vs.toArray m y hy' (by rw [sizeLine_eq]; simp; omega)) ⟨h1, ?_⟩
    have hsb : Heap.SameBut a s.heap (s.heap.update a (Obj.mapSeq fun xs => xs.eraseIdxIfInBounds (vs.toArray.size - 1))) := Heap.SameBut.update ..
    have hsz : vs.toArray.size = vs.length := by simp
    have he : vs.toArray.eraseIdxIfInBounds (vs.toArray.size - 1) = (vs.take xs.length).toArray := by
      have hv2 : vs = vs.take xs.length ++ [y] := by
        have := List.take_append_getElem hlt
        have h3 : vs[xs.length] = y := by
          have := List.getElem?_eq_getElem hlt
          rw [this] at hy; exact Option.some.inj hy
        rw [h3] at this
        rw [this, List.take_of_length_le (by omega)]
      have e3 : (vs.take xs.length).length = xs.length := by rw [List.length_take]; omega
      have e4 : vs.toArray.size - 1 = (vs.take xs.length).length := by rw [hsz, e3]; omega
      have := erase_last (vs.take xs.length) y
      rw [e4, ← this, ← hv2]
    have hget := PySem.IsL.update h1 (fun xs => xs.eraseIdxIfInBounds (vs.toArray.size - 1))
    rw [he, if_neg (by simp; omega)] at hget
    refine h y P δ _ s.toks (fun _ _ z => z) (List.prefix_refl _) (I.setCell ha hsb ⟨vs.take xs.length, ⟨_, hget⟩, ?_⟩) hyx
    have := h2.take xs.length
    rwa [List.take_left'] at this
    rfl⟩
end
end Mine
end
section
open PySem PySem.W PyProof.Rows PySem.Calls PySem.SeqAt
set_option Elab.async false
set_option linter.unusedVariables false
set_option maxRecDepth 100000
namespace Mine

/-- what an assignment to a target does -/
structure Asg (g : Glo) (sc : Scope) (n : Nat) (t : Expr) (y : V) (ρ ρ' : Loc) : Prop where
  run : ∀ (env : Env) (A : Around) (R : RS) (P : PS) (δ : List Addr) (σ : List MO) (s : Shared) (Q : Unit → Shared → Prop) (v : Value), EnvOk env sc → AOk A n R env → Inv g R P δ env ρ σ s.heap → g.Sees P δ v y →
    (∀ P' δ' h' tk', (∀ b o, P b o → P' b o) → δ <+: δ' → Inv g R P' δ' env ρ' σ h' → Q () { s with heap := h', toks := tk' }) → wpAny (model g.prog g.w) A (assign t env v) Q NoE s
structure AsgL (g : Glo) (sc : Scope) (n : Nat) (ts : List Expr) (ys : List V) (ρ ρ' : Loc) : Prop where
  run : ∀ (env : Env) (A : Around) (R : RS) (P : PS) (δ : List Addr) (σ : List MO) (s : Shared) (Q : Unit → Shared → Prop) (vs : List Value), EnvOk env sc → AOk A n R env → Inv g R P δ env ρ σ s.heap → g.SeesL P δ vs ys →
    (∀ P' δ' h' tk', (∀ b o, P b o → P' b o) → δ <+: δ' → Inv g R P' δ' env ρ' σ h' → Q () { s with heap := h', toks := tk' }) → wpAny (model g.prog g.w) A (assignInOrder ((assignEach ts env).map (·.2)) vs) Q NoE s

section
variable {g : Glo} {R : RS} {P : PS} {δ : List Addr} {env : Env} {ρ ρ' ρ₁ ρ₂ : Loc} {σ σ' σ₁ σ₂ σ₃ : List MO} {h : Heap} {sc : Scope} {n : Nat} {Φ : Out → Prop} {rest : List Stmt}

theorem asg_name {a : Str} {pa : Pos} {y : V} (ha : isVar sc a = true := by decide +kernel) : Asg g sc n (.Name a pa) y ρ ((a, y) :: ρ) := .mk fun env A R P δ σ s Q v O hA I hv h =>
  wpAny_assign_Name (wp_store O I ha hv fun h' tk' I' => h P δ h' tk' (fun _ _ z => z) (List.prefix_refl _) I')
theorem asgl_nil : AsgL g sc n [] [] ρ ρ := .mk fun env A R P δ σ s Q vs O hA I hv h => by
  rw [hv.nil_inv]
  exact wpAny_assignInOrder_none (h P δ s.heap s.toks (fun _ _ z => z) (List.prefix_refl _) I)
theorem assignEach_cons {t : Expr} (ht : isStar t = false) (ts : List Expr) (env : Env) : assignEach (t :: ts) env = (false, assign t env) :: assignEach ts env := by
  cases t <;> first | (cases ht; done) | rfl
theorem asgl_cons {t : Expr} {ts : List Expr} {y : V} {ys : List V} (h1 : Asg g sc n t y ρ ρ₁) (h2 : AsgL g sc n ts ys ρ₁ ρ₂) (ht : isStar t = false := by rfl) : AsgL g sc n (t :: ts) (y :: ys) ρ ρ₂ := .mk fun env A R P δ σ s Q vs O hA I hv h => by
  obtain ⟨v, us, rfl, a, b⟩ := hv.cons_inv
  rw [assignEach_cons ht]
  refine wpAny_assignInOrder_more (h1.run env A R P δ σ s _ v O hA I a fun P₁ δ₁ hh₁ tk₁ le₁ pr₁ I₁ => ?_)
  exact h2.run env A R P₁ δ₁ σ _ Q us O hA I₁ (b.mono le₁ pr₁) fun P₂ δ₂ hh₂ tk₂ le₂ pr₂ I₂ => h P₂ δ₂ hh₂ tk₂ (fun b o z => le₂ b o (le₁ b o z)) (pr₁.trans pr₂) I₂
theorem assignEach_len : ∀ {ts : List Expr} (env : Env), noStar ts = true → (assignEach ts env).length = ts.length ∧ List.findIdx? (fun x => x.fst) (assignEach ts env) = none
  | [], _, _ => ⟨rfl, rfl⟩
  | t :: ts, env, h => by
    unfold noStar at h
    rw [List.all_cons] at h
    obtain ⟨h1, h2⟩ := Bool.and_eq_true_iff.mp h
    obtain ⟨a, b⟩ := assignEach_len env (ts := ts) h2
    rw [assignEach_cons (by simpa using h1)]
    refine ⟨congrArg Nat.succ a, ?_⟩
    rw [List.findIdx?_cons, b]; rfl
theorem Inv.pinned_ext (I : Inv g R P δ env ρ σ h) {h' : Heap} (hs : Heap.ExtBut h.objs.size h h') : Inv g R P δ env ρ σ h' :=
  I.grows fun b o e => hs b o (Nat.ne_of_lt (Heap.lt_size e)) e
theorem asg_tup {ts : List Expr} {k : Nat} {pos : Pos} {ys : List V} (h1 : AsgL g sc n ts ys ρ ρ') (hl : ts.length = ys.length := by rfl) (hn : noStar ts = true := by rfl) : Asg g sc n (.Tuple ts k pos) (.tup ys) ρ ρ' := .mk fun env A R P δ σ s Q v O hA I hv h => by
  obtain ⟨a, vs, rfl, ha, hs⟩ := I.tupOf hv
  obtain ⟨e1, e2⟩ := assignEach_len env hn
  refine wpAny_assign_Tuple hA.handled ha (by rw [e1, hl, ← hs.length]; simp) e2 fun h' hx => ?_
  exact h1.run env A R P δ σ { s with heap := h' } Q vs O hA (I.pinned_ext hx) hs h

-- tuples taken apart
theorem ex1_untup {ts : List Expr} {k : Nat} {pt p : Pos} {e : Expr} {y : V} (h1 : Ev g sc n e ρ σ y σ₁) (h2 : Asg g sc n (.Tuple ts k pt) y ρ ρ') (hs : ∀ env, swapsWithSole [.Tuple ts k pt] e p.line env = pure false := by intro _; rfl)
    (hw : ∀ env, swappedStores [.Tuple ts k pt] e env = pure none := by intro _; rfl) : Ex1 g sc n (.Assign [.Tuple ts k pt] e p) ρ σ ρ' σ₁ := .mk fun env A R P δ s Q O hA I k =>
  Assign_Tuple (h1.run env A R P δ s _ O hA I fun v P₁ δ₁ hh₁ tk₁ le₁ pr₁ I₁ s₁ => h2.run env A R P₁ δ₁ σ₁ _ _ v O hA I₁ s₁ fun P₂ δ₂ hh₂ tk₂ le₂ pr₂ I₂ => k P₂ δ₂ hh₂ tk₂ (fun b o z => le₂ b o (le₁ b o z)) (pr₁.trans pr₂) I₂) (hs env) (hw env)

-- a dict's pair is stored
noncomputable def store (xs : List (Str × V)) (k : Str) (y : V) : List (Str × V) :=
  if xs.any (fun kv => kv.1 = k) then xs.map (fun kv => if kv.1 = k then (kv.1, y) else kv) else xs ++ [(k, y)]
theorem SeesD.any {kvs : List (Str × Value)} {xs : List (Str × V)} (h : g.SeesD P δ kvs xs) (k : Str) : kvs.any (fun kv => kv.1 = k) = xs.any (fun kv => kv.1 = k) := by
  have e : ∀ {α : Type} (l : List (Str × α)), l.any (fun kv => kv.1 = k) = (l.map (·.1)).any (fun x => x = k) := by intro α l; rw [List.any_map]; rfl
  rw [e, e, h.1]
theorem SeesD.store {kvs : List (Str × Value)} {xs : List (Str × V)} {k : Str} {v : Value} {y : V} (h : g.SeesD P δ kvs xs) (hv : g.Sees P δ v y) : g.SeesD P δ (stored kvs k v) (Mine.store xs k y) := by
  unfold stored Mine.store
  rw [h.any k]
  split
  · refine ⟨?_, ?_⟩
    · rw [List.map_map, List.map_map]
      have e : ∀ {α : Type} (u : α) (l : List (Str × α)), l.map ((·.1) ∘ fun kv => if kv.1 = k then (kv.1, u) else kv) = l.map (·.1) := by
        intro α u l
        apply List.map_congr_left
        intro a _
        simp only [Function.comp]
        split <;> rfl
      rw [e, e]; exact h.1
    · intro i u x a b
      rw [List.getElem?_map] at a b
      obtain ⟨u', hu, rfl⟩ := Option.map_eq_some_iff.mp a
      obtain ⟨x', hx, rfl⟩ := Option.map_eq_some_iff.mp b
      have hk : u'.1 = x'.1 := by
        have := congrArg (·[i]?) h.1
        simp only [List.getElem?_map, hu, hx, Option.map_some] at this
        exact Option.some.inj this
      by_cases hq : x'.1 = k
      · rw [if_pos hq, if_pos (hk.trans hq)]; exact hv
      · rw [if_neg hq, if_neg (fun e => hq (hk ▸ e))]; exact h.2 i _ _ hu hx
  · refine ⟨by simp [h.1], ?_⟩
    have hl : kvs.length = xs.length := by have := congrArg List.length h.1; simpa using this
    intro i u x a b
    by_cases hi : i < kvs.length
    · rw [List.getElem?_append_left hi] at a
      rw [List.getElem?_append_left (hl ▸ hi)] at b
      exact h.2 i _ _ a b
    · rw [List.getElem?_append_right (Nat.le_of_not_lt hi)] at a
      rw [List.getElem?_append_right (hl ▸ Nat.le_of_not_lt hi), ← hl] at b
      cases hz : i - kvs.length with
      | zero => rw [hz] at a b; cases a; cases b; exact hv
      | succ m => rw [hz] at a; simp at a
theorem ex1_store {o i value : Expr} {pt p : Pos} {j : Nat} {k : List UInt8} {x : V} {xs : List (Str × V)} (h1 : Ev g sc n value ρ σ x σ₁) (h2 : Ev g sc n o ρ σ₁ (.cell j) σ₁) (h3 : Ev g sc n i ρ σ₁ (.tx .s k) σ₁) (hj : σ₁[j]? = some (.dict xs)) (hz : xs.length ≤ 16777216)
    (hs : ∀ env, swapsWith value (some (.Subscript o i pt)) p.line env = pure false := by intro _; rfl) : Ex1 g sc n (.Assign [.Subscript o i pt] value p) ρ σ ρ (σ₁.set j (.dict (Mine.store xs (S8 k) x))) := .mk fun env A R P δ s Q O hA I kk => by
  refine wpAny_Assign_Subscript (h1.run env A R P δ s _ O hA I fun v P₁ δ₁ hh₁ tk₁ le₁ pr₁ I₁ s₁ => ?_) (hs env)
  refine h2.run env A R P₁ δ₁ _ _ O hA I₁ fun u P₂ δ₂ hh₂ tk₂ le₂ pr₂ I₂ s₂ => ?_
  refine h3.run env A R P₂ δ₂ _ _ O hA I₂ fun r P₃ δ₃ hh₃ tk₃ le₃ pr₃ I₃ s₃ => ?_
  obtain ⟨a, rfl, ha⟩ := (s₂.mono le₃ pr₃).tells
  obtain ⟨t, rfl⟩ := s₃.tells
  obtain ⟨kvs, hd, hsd⟩ := I₃.objs j a _ ha hj
  have hl : kvs.length = xs.length := by have := congrArg List.length hsd.1; simpa using this
  refine wpAny_setItem_pairs (strKind_is _ _ _ _) hd (fun h' hd' hsb => ?_) (by rw [sizeLine_eq]; omega)
  exact kk P₃ δ₃ h' _ (fun b o z => le₃ b o (le₂ b o (le₁ b o z))) ((pr₁.trans pr₂).trans pr₃) (I₃.setCell ha hsb ⟨_, hd', hsd.store ((s₁.mono le₂ pr₂).mono le₃ pr₃)⟩)

-- a dict is shown
noncomputable def EvPs (g : Glo) (sc : Scope) (n : Nat) (pos : Pos) (keys : List (Option Expr)) (values : List Expr) (ρ : Loc) (σ : List MO) (xs : List (Str × V)) : Prop :=
  Run g sc n (fun env => evalPairs (pairTrees keys values env pos)) ρ σ (fun P δ vs => ∃ kvs, Carries (strKind g.prog g.w) vs kvs ∧ g.SeesD P δ kvs xs) σ
theorem evps_nil {pos : Pos} : EvPs g sc n pos [] [] ρ σ [] := .mk fun env A R P δ s Q O hA I h => wpAny_pure (stay s.toks I h ⟨[], trivial, rfl, fun i v x e => by simp at e⟩)
theorem evps_cons {pos : Pos} {k v : Expr} {ks : List (Option Expr)} {vs : List Expr} {l : List UInt8} {y : V} {xs : List (Str × V)} (h1 : Ev g sc n k ρ σ (.tx .s l) σ) (h2 : Ev g sc n v ρ σ y σ) (h3 : EvPs g sc n pos ks vs ρ σ xs) :
    EvPs g sc n pos (some k :: ks) (v :: vs) ρ σ ((S8 l, y) :: xs) := .mk fun env A R P δ s Q O hA I h => by
  show wpAny _ A (evalPairs ((eval k env, do let x ← eval v env; standAt pos; pure x) :: pairTrees ks vs env pos)) Q NoE s
  unfold evalPairs
  refine wpAny_bind (h1.run env A R P δ s _ O hA I fun a P₁ δ₁ hh₁ tk₁ le₁ pr₁ I₁ s₁ => ?_)
  refine wpAny_bind (wpAny_holding (wpAny_bind (h2.run env A R P₁ δ₁ _ _ O hA I₁ fun b P₂ δ₂ hh₂ tk₂ le₂ pr₂ I₂ s₂ => ?_)))
  refine wpAny_bind (wpAny_standAt (wpAny_pure ?_))
  refine wpAny_bind (wpAny_holding (h3.run env A R P₂ δ₂ _ _ O hA I₂ fun r P₃ δ₃ hh₃ tk₃ le₃ pr₃ I₃ s₃ => wpAny_pure ?_))
  obtain ⟨t, rfl⟩ := s₁.tells
  obtain ⟨kvs, hc, hs⟩ := s₃
  refine h _ P₃ δ₃ hh₃ tk₃ (fun b o z => le₃ b o (le₂ b o (le₁ b o z))) ((pr₁.trans pr₂).trans pr₃) I₃ ⟨(S8 l, b) :: kvs, ⟨strKind_is _ _ _ _, rfl, hc⟩, by simp [hs.1], fun i u x a c => ?_⟩
  cases i with
  | zero => cases a; cases c; exact s₂.mono le₃ pr₃
  | succ i => exact hs.2 i u x (by simpa using a) (by simpa using c)
theorem ev_dict {keys : List (Option Expr)} {values : List Expr} {pos : Pos} {xs : List (Str × V)} (h1 : EvPs g sc n pos keys values ρ (σ ++ [.dict []]) xs) (hk : keys.all (·.isSome) = true) (hl : keys.length = values.length) (hne : keys ≠ []) (h15 : keys.length ≤ 15) (hn : (xs.map (·.1)).Nodup) :
    Ev g sc n (.Dict keys values pos) ρ σ (.cell σ.length) (σ ++ [.dict xs]) := .mk fun env A R P δ s Q O hA I h => by
  have hd0 : (s.heap.push { cls := .type "dict", data := .dict #[] }).DictOf (strKind g.prog g.w) s.heap.objs.size [] := Heap.DictOf.new s.heap
  have I₀ := (I.grows (h' := s.heap.push { cls := .type "dict", data := .dict #[] }) fun b o e => Heap.get?_push_of_some _ e).newCell (o := .dict []) (I.free (get_size_none s.heap)) ⟨[], hd0, rfl, fun i v x e => by simp at e⟩
  refine wpAny_Dict_walk (knd := strKind g.prog g.w) hk hl hne h15 ?_
  refine h1.run env A R P (δ ++ [s.heap.objs.size]) { s with heap := s.heap.push { cls := .type "dict", data := .dict #[] } } _ O hA I₀ fun vs P₁ δ₁ hh₁ tk₁ le₁ pr₁ I₁ s₁ => ?_
  obtain ⟨kvs, hc, hs⟩ := s₁
  have ha : δ₁[σ.length]? = some s.heap.objs.size := by
    refine get_prefix pr₁ ?_
    rw [← I.len]; simp
  have hi : (σ ++ [MO.dict []])[σ.length]? = some (MO.dict []) := by simp
  obtain ⟨kvs0, hd, hsd⟩ := I₁.objs σ.length _ _ ha hi
  have : kvs0 = [] := by have := congrArg List.length hsd.1; simpa using this
  subst this
  refine ⟨kvs, hc, hd, fun h' hd' hsb => ?_⟩
  rw [merged_nil_of_nodup _ (by rw [hs.1]; exact hn)] at hd'
  have I₂ := I₁.setCell (o := .dict xs) ha hsb ⟨kvs, hd', hs⟩
  have e : (σ ++ [MO.dict []]).set σ.length (.dict xs) = σ ++ [.dict xs] := by simp
  rw [e] at I₂
  exact h _ P₁ δ₁ h' _ le₁ (List.IsPrefix.trans (List.prefix_append _ _) pr₁) I₂ (.cell _ _ ha)
end
end Mine
end
section
open PySem PySem.W PyProof.Rows PySem.Calls PySem.SeqAt
set_option Elab.async false
set_option linter.unusedVariables false
set_option maxRecDepth 100000
namespace Mine

/-- what a turn hands on: a tree, or a tuple made for the turn alone -/
noncomputable def SeenIn (g : Glo) (P : PS) (δ : List Addr) (h h' : Heap) (v : Value) (y : V) : Prop :=
  g.Sees P δ v y ∨ ∃ (T : Addr) (vals : List Value) (ys : List V), v = .ref T ∧ y = .tup ys ∧ h.get? T = none ∧ h'.IsTuple T vals.toArray ∧ g.SeesL P δ vals ys

/-- an iterator that hands on xs -/
structure Wkr (g : Glo) (A : Around) (P : PS) (δ : List Addr) (I : Addr) (wr : List Addr) (xs : List V) (tgt : Expr) (St : Nat → Heap → Prop) : Prop where
  live : ∀ i h, St i h → ∀ b ∈ wr, ∃ o, h.get? b = some o ∧ ∀ v, o.data ≠ .cell v
  frame : ∀ i h h', St i h → (∀ b ∈ wr, ∀ o, h.get? b = some o → h'.get? b = some o) → (∀ b o, P b o → h.get? b = some o) → (∀ b o, P b o → h'.get? b = some o) → St i h'
  item : ∀ i y (s : Shared) (Q : Value → Shared → Prop), xs[i]? = some y → St i s.heap → (∀ b o, P b o → s.heap.get? b = some o) →
    (∀ v h' tk, St (i + 1) h' → SeenIn g P δ s.heap h' v y → (∀ b o, b ∉ wr → s.heap.get? b = some o → h'.get? b = some o) → Q v { s with heap := h', toks := tk }) →
    wpAny (model g.prog g.w) A (pyNext (.ref I)) (fun r s₁ => match r with | none => False | some v => wpAny (model g.prog g.w) A (letOwnedTupleGo tgt (.ref I) v) (fun _ s' => Q v s') NoE s₁) NoE s
  self : ∀ i (s : Shared) (Q : Value → Shared → Prop), St i s.heap → Q (.ref I) s → wpAny (model g.prog g.w) A (pyIter (.ref I)) Q NoE s
  done : ∀ (s : Shared) (Q : Option Value → Shared → Prop), St xs.length s.heap → (∀ b o, P b o → s.heap.get? b = some o) →
    (∀ h' tk, (∀ b o, b ∉ wr → s.heap.get? b = some o → h'.get? b = some o) → Q none { s with heap := h', toks := tk }) → wpAny (model g.prog g.w) A (pyNext (.ref I)) Q NoE s

/-- what is iterated over -/
structure Src (g : Glo) (sc : Scope) (n : Nat) (iter : Expr) (ρ : Loc) (σ : List MO) (xs : List V) (σ' : List MO) (tgt : Expr) : Prop where
  run : ∀ (env : Env) (A : Around) (R : RS) (P : PS) (δ : List Addr) (s : Shared) (Q : Value → Shared → Prop), EnvOk env sc → AOk A n R env → Inv g R P δ env ρ σ s.heap →
    (∀ I wr St P' δ' h' tk', (∀ b o, P b o → P' b o) → δ <+: δ' → Inv g R P' δ' env ρ σ' h' → (∀ b ∈ wr, Free R P' δ' env b) → (∀ A', A'.handled = none → Wkr g A' P' δ' I wr xs tgt St) → St 0 h' → Q (.ref I) { s with heap := h', toks := tk' }) →
    wpAny (model g.prog g.w) A (eval iter env) (fun x s₁ => wpAny (model g.prog g.w) A (pyIter x) Q NoE s₁) NoE s

noncomputable def isNameE : Expr → Bool
  | .Name _ _ => true
  | _ => false
theorem nameE_tells {e : Expr} (h : isNameE e = true) : ∃ x p, e = .Name x p := by
  cases e <;> first | exact ⟨_, _, rfl⟩ | (cases h; done)
section
variable {g : Glo} {R : RS} {P P' : PS} {δ δ' : List Addr} {env : Env} {ρ ρ' ρ₁ ρ₂ : Loc} {σ σ' σ₁ σ₂ σ₃ : List MO} {h h' : Heap} {sc : Scope} {n : Nat} {Φ : Out → Prop} {rest : List Stmt}

/-- more that stays as it is -/
noncomputable def held (R : RS) (wr : List Addr) (h : Heap) : RS := ⟨fun b o => R.ex b o ∨ (b ∈ wr ∧ h.get? b = some o), R.up⟩
theorem held_any {R : RS} {wr : List Addr} {h : Heap} {b : Addr} {o : Obj} (x : (held R wr h).any b o) : R.any b o ∨ (b ∈ wr ∧ h.get? b = some o) := by
  rcases x with (x | x) | x
  · exact .inl (.inl x)
  · exact .inr x
  · exact .inl (.inr x)
theorem any_held {R : RS} {wr : List Addr} {h : Heap} {b : Addr} {o : Obj} (x : R.any b o) : (held R wr h).any b o := by
  rcases x with x | x
  · exact .inl (.inl x)
  · exact .inr x
theorem mem_held {R : RS} {wr : List Addr} {h : Heap} {b : Addr} {o : Obj} (x : b ∈ wr) (e : h.get? b = some o) : (held R wr h).any b o := .inl (.inr ⟨x, e⟩)
theorem AOk.held {A : Around} {R : RS} {env : Env} {wr : List Addr} {h : Heap} (a : AOk A n R env) : AOk A n (held R wr h) env := ⟨a.handled, a.depth, a.units, a.stack⟩
theorem Inv.hold (I : Inv g R P δ env ρ σ h) {wr : List Addr} (hf : ∀ b ∈ wr, Free R P δ env b) : Inv g (held R wr h) P δ env ρ σ h where
  keepR := fun b o r => r.elim (I.keepR b o) fun z => z.2
  keepU := I.keepU
  part := fun b o o' r u => r.elim (fun r => I.part b o o' r u) fun z => (hf b z.1).r o' (.inr u)
  keepP := I.keepP
  base := fun b o e => .inl (I.base b o e)
  sep := fun b o o' p r => (held_any r).elim (I.sep b o o' p) fun z => absurd p ((hf b z.1).p o)
  loc := by
    obtain ⟨m, hn, hm⟩ := I.loc
    refine ⟨m, hn, fun x y e => ?_⟩
    obtain ⟨v, hs, hl⟩ := hm x y e
    refine ⟨v, hs, ?_⟩
    rcases hl with l | l | ⟨a, c, o, b, r, d⟩
    · exact .inl l
    · exact .inr (.inl l)
    · exact .inr (.inr ⟨a, c, o, b, any_held r, d⟩)
  cel := I.cel
  one := I.one
  nloc := I.nloc
  offP := I.offP
  offR := fun a o hs r => (held_any r).elim (I.offR a o hs) fun z => (hf a z.1).s hs
  offD := I.offD
  dP := I.dP
  dR := fun a o hd r => (held_any r).elim (I.dR a o hd) fun z => (hf a z.1).d hd
  dN := I.dN
  len := I.len
  objs := I.objs
theorem Inv.unhold {wr : List Addr} {h₀ : Heap} (hb : ∀ b o, g.hb.get? b = some o → R.ex b o) (I : Inv g (held R wr h₀) P δ env ρ σ h) (hc : ∀ b ∈ wr, ∀ o, h₀.get? b = some o → ∀ v, o.data ≠ .cell v) : Inv g R P δ env ρ σ h where
  keepR := fun b o r => I.keepR b o (.inl r)
  keepU := I.keepU
  part := fun b o o' r u => I.part b o o' (.inl r) u
  keepP := I.keepP
  base := hb
  sep := fun b o o' p r => I.sep b o o' p (any_held r)
  loc := by
    obtain ⟨m, hn, hm⟩ := I.loc
    refine ⟨m, hn, fun x y e => ?_⟩
    obtain ⟨v, hs, hl⟩ := hm x y e
    refine ⟨v, hs, ?_⟩
    rcases hl with l | l | ⟨a, c, o, b, r, d⟩
    · exact .inl l
    · exact .inr (.inl l)
    · rcases held_any r with r | ⟨r1, r2⟩
      · exact .inr (.inr ⟨a, c, o, b, r, d⟩)
      · exact absurd d (hc c r1 o r2 _)
  cel := I.cel
  one := I.one
  nloc := I.nloc
  offP := I.offP
  offR := fun a o hs r => I.offR a o hs (any_held r)
  offD := I.offD
  dP := I.dP
  dR := fun a o hd r => I.dR a o hd (any_held r)
  dN := I.dN
  len := I.len
  objs := I.objs
/-- what was nobody's before the turn is nobody's after it -/
theorem Inv.still {wr : List Addr} {h₀ : Heap} (hb : ∀ b o, g.hb.get? b = some o → R.ex b o) (J : Inv g (held R wr h₀) P' δ' env ρ σ h) (hf : ∀ b ∈ wr, Free R P δ env b) (hl : ∀ b ∈ wr, ∃ o, h₀.get? b = some o) : ∀ b ∈ wr, Free R P' δ' env b := fun b hm =>
  let ⟨o, ho⟩ := hl b hm
  { r := (hf b hm).r
    p := fun q p => let ⟨z, hz⟩ := J.sep b q o p (mem_held hm ho); (hf b hm).r _ (.inl (hb _ _ hz))
    d := fun hd => J.dR b o hd (mem_held hm ho)
    s := (hf b hm).s }

/-- a turn: the next item, taken in -/
theorem Wkr.turn {A : Around} {P₀ : PS} {δ₀ : List Addr} {It : Addr} {wr : List Addr} {xs : List V} {tgt : Expr} {St : Nat → Heap → Prop} (W : Wkr g A P₀ δ₀ It wr xs tgt St) (O : EnvOk env sc) (hA : AOk A n R env) {i : Nat} {y : V} {s : Shared} {Q : Shared → Prop} (hy : xs[i]? = some y)
    (I : Inv g R P δ env ρ σ s.heap) (le : ∀ b o, P₀ b o → P b o) (pr : δ₀ <+: δ) (hf : ∀ b ∈ wr, Free R P δ env b) (st : St i s.heap) (ha : Asg g sc n tgt y ρ ρ')
    (hQ : ∀ P' δ' h' tk', (∀ b o, P b o → P' b o) → δ <+: δ' → Inv g (held R wr h') P' δ' env ρ' σ h' → (∀ b ∈ wr, Free R P' δ' env b) → St (i + 1) h' → Q { s with heap := h', toks := tk' }) :
    wpAny (model g.prog g.w) A (pyNext (.ref It)) (fun r s₁ => match r with
      | none => False
      | some v => wpAny (model g.prog g.w) A (letOwnedTupleGo tgt (.ref It) v) (fun _ s' => wpAny (model g.prog g.w) A (assign tgt env v) (fun _ s'' => Q s'') NoE s') NoE s₁) NoE s := by
  refine W.item i y s (fun v s' => wpAny (model g.prog g.w) A (assign tgt env v) (fun _ s'' => Q s'') NoE s') hy st (fun b o p => I.keepP b o (le b o p)) fun v h₁ tk₁ st₁ hv hk₁ => ?_
  have I₁ : Inv g R P δ env ρ σ h₁ := I.keeps fun b o k e => hk₁ b o (fun hm => by
    have f := hf b hm
    rcases k with ⟨q, k⟩ | ⟨q, k⟩ | k | k
    · exact f.r _ k
    · exact f.p _ k
    · exact f.d k
    · exact f.s k) e
  have fin : ∀ (P₁ : PS) (hle : ∀ b o, P b o → P₁ b o) (J : Inv g R P₁ δ env ρ σ h₁), (∀ b ∈ wr, Free R P₁ δ env b) → g.Sees P₁ δ v y → wpAny (model g.prog g.w) A (assign tgt env v) (fun _ s'' => Q s'') NoE { s with heap := h₁, toks := tk₁ } := by
    intro P₁ hle J hf₁ hs
    have live := W.live _ _ st₁
    refine ha.run env A (held R wr h₁) P₁ δ σ _ _ v O hA.held (J.hold hf₁) hs fun P₂ δ₂ h₂ tk₂ le₂ pr₂ I₂ => ?_
    have hf₂ := I₂.still J.base hf₁ fun b hm => let ⟨o, ho, _⟩ := live b hm; ⟨o, ho⟩
    have hsame : ∀ b ∈ wr, ∀ o, h₁.get? b = some o → h₂.get? b = some o := fun b hm o e => I₂.keepR b o (.inr ⟨hm, e⟩)
    have st₂ := W.frame _ _ _ st₁ hsame (fun b o p => J.keepP b o (hle b o (le b o p))) fun b o p => I₂.keepP b o (le₂ b o (hle b o (le b o p)))
    have I₃ := (I₂.unhold J.base fun b hm o e => let ⟨o', ho', hc⟩ := live b hm; by rw [ho'] at e; cases e; exact hc).hold hf₂
    exact hQ P₂ δ₂ h₂ tk₂ (fun b o z => le₂ b o (hle b o z)) pr₂ I₃ hf₂ st₂
  rcases hv with hv | ⟨T, vals, ys, rfl, rfl, hT, ⟨o, ho, hc, m, hd⟩, hs⟩
  · exact fin P (fun _ _ z => z) I₁ hf (hv.mono le pr)
  · have hTf := I.free hT
    have hnw : T ∉ wr := fun hm => by
      obtain ⟨o, ho, _⟩ := W.live _ _ st T hm
      rw [hT] at ho; cases ho
    refine fin (pinned P T o) pin_le (I₁.pin hTf ho) (fun b hm => ?_) (.mkTup pin_at hc hd ((hs.mono le pr).mono pin_le (List.prefix_refl _)))
    have f := hf b hm
    exact ⟨f.r, fun q z => z.elim (f.p q) fun e => hnw (e.1 ▸ hm), f.d, f.s⟩

noncomputable def Sub (ρ r : Loc) : Prop := ∀ x y, ρ.lookup x = some y → r.lookup x = some y
/-- how a turn of a loop may end -/
inductive Lp (ρ' : Loc) (σ' : List MO) (ok : Prop) (B : Loc → List MO → Prop) (Φ : Out → Prop) : Out → Prop
  | nx {r : Loc} : ok → Sub ρ' r → Lp ρ' σ' ok B Φ (.nx r σ')
  | ct {r : Loc} : ok → Sub ρ' r → Lp ρ' σ' ok B Φ (.ct r σ')
  | bk {r : Loc} {s : List MO} : B r s → Lp ρ' σ' ok B Φ (.bk r s)
  | rt {x : V} {s : List MO} : Φ (.rt x s) → Lp ρ' σ' ok B Φ (.rt x s)

/-- the state of a loop over an iterator, m turns before its end -/
noncomputable def LpI (g : Glo) (R : RS) (env : Env) (wr : List Addr) (St : Nat → Heap → Prop) (J : Nat → Loc) (S : Nat → List MO) (ok : Nat → Prop) (P₁ : PS) (δ₁ : List Addr) (N : Nat) (s : Shared) (m : Nat) (s' : Shared) : Prop :=
  ∃ P' δ' h' tk' i, s' = { s with heap := h', toks := tk' } ∧ (∀ b o, P₁ b o → P' b o) ∧ δ₁ <+: δ' ∧ Inv g R P' δ' env (J i) (S i) h' ∧ (∀ b ∈ wr, Free R P' δ' env b) ∧ St i h' ∧ ok i ∧ i ≤ N ∧ m = N - i
/-- where the loop leads -/
noncomputable def LpK (M : Model) (A : Around) (env : Env) (rest : List Stmt) (Q : Flow → Shared → Prop) : Result → Shared → Prop := fun r s' => match r with
  | .ok f => (match f with | .next => wpAny M A (execs rest env) Q NoE s' | f => Q f s')
  | .error e => cameBackBy M A env NoE e s'
/-- what a turn's statements lead to -/
noncomputable def LpQ (K : Result → Shared → Prop) (LI : Nat → Shared → Prop) (m : Nat) : Flow → Shared → Prop := fun f s₃ => match f with
  | .next | .cont => ∃ m', m' < m ∧ LI m' s₃
  | .brk => K (.ok .next) s₃
  | .ret v => K (.ok (.ret v)) s₃

theorem Lp.post {A : Around} {P₁ P₂ : PS} {δ₁ δ₂ : List Addr} {wr : List Addr} {J : Nat → Loc} {S : Nat → List MO} {ok : Nat → Prop} {St : Nat → Heap → Prop} {N i : Nat} {s : Shared} {h₂ : Heap} {tk₂ : Nat} {Q : Flow → Shared → Prop} (O : EnvOk env sc) (hA : AOk A n R env)
    (hb : ∀ b o, g.hb.get? b = some o → R.ex b o) (hlive : ∀ b ∈ wr, ∃ o, h₂.get? b = some o ∧ ∀ v, o.data ≠ .cell v) (hf₂ : ∀ b ∈ wr, Free R P₂ δ₂ env b) (hlt : i < N)
    (hframe : ∀ h', (∀ b ∈ wr, ∀ o, h₂.get? b = some o → h'.get? b = some o) → (∀ b o, P₁ b o → h'.get? b = some o) → St (i + 1) h') (le : ∀ b o, P b o → P₁ b o) (pr : δ <+: δ₁) (le₂ : ∀ b o, P₁ b o → P₂ b o) (pr₂ : δ₁ <+: δ₂)
    (k : ∀ o, Φ o → Post g R P δ env s Q o) {o : Out} (ho : Lp (J (i + 1)) (S (i + 1)) (ok (i + 1)) (fun r s => Ex g sc n rest r s Φ) Φ o) :
    Post g (held R wr h₂) P₂ δ₂ env { s with heap := h₂, toks := tk₂ } (LpQ (LpK (model g.prog g.w) A env rest Q) (LpI g R env wr St J S ok P₁ δ₁ N s) (N - i)) o := by
  have hc : ∀ b ∈ wr, ∀ o, h₂.get? b = some o → ∀ v, o.data ≠ .cell v := fun b hm o e => let ⟨o', ho', hc⟩ := hlive b hm; by rw [ho'] at e; cases e; exact hc
  have lv : ∀ b ∈ wr, ∃ o, h₂.get? b = some o := fun b hm => let ⟨o, ho, _⟩ := hlive b hm; ⟨o, ho⟩
  have step : ∀ (r : Loc) P₃ δ₃ h₃ tk₃, ok (i + 1) → Sub (J (i + 1)) r → (∀ b o, P₂ b o → P₃ b o) → δ₂ <+: δ₃ → Inv g (held R wr h₂) P₃ δ₃ env r (S (i + 1)) h₃ →
      ∃ m', m' < N - i ∧ LpI g R env wr St J S ok P₁ δ₁ N s m' { s with heap := h₃, toks := tk₃ } := by
    intro r P₃ δ₃ h₃ tk₃ hok hsub le₃ pr₃ I₃
    refine ⟨N - (i + 1), by omega, P₃, δ₃, h₃, tk₃, i + 1, rfl, fun b o z => le₃ b o (le₂ b o z), pr₂.trans pr₃, (I₃.unhold hb hc).forget hsub, I₃.still hb hf₂ lv, ?_, hok, by omega, rfl⟩
    exact hframe h₃ (fun b hm o e => I₃.keepR b o (.inr ⟨hm, e⟩)) fun b o p => I₃.keepP b o (le₃ b o (le₂ b o p))
  cases ho with
  | nx hok hsub => exact fun P₃ δ₃ h₃ tk₃ le₃ pr₃ I₃ => step _ P₃ δ₃ h₃ tk₃ hok hsub le₃ pr₃ I₃
  | ct hok hsub => exact fun P₃ δ₃ h₃ tk₃ le₃ pr₃ I₃ => step _ P₃ δ₃ h₃ tk₃ hok hsub le₃ pr₃ I₃
  | bk hB => exact fun P₃ δ₃ h₃ tk₃ le₃ pr₃ I₃ => hB.run env A R P₃ δ₃ _ Q O hA (I₃.unhold hb hc) fun o ho => (k o ho).mono (fun b o z => le₃ b o (le₂ b o (le b o z))) ((pr.trans pr₂).trans pr₃)
  | rt hΦ => exact fun v P₃ δ₃ h₃ tk₃ le₃ pr₃ I₃ s₃ => k _ hΦ v P₃ δ₃ h₃ tk₃ (fun b o z => le₃ b o (le₂ b o (le b o z))) ((pr.trans pr₂).trans pr₃) (I₃.unhold hb hc) s₃

theorem ex_for {tgt iter : Expr} {body : List Stmt} {pos : Pos} {xs : List V} (J : Nat → Loc) (S : Nat → List MO) (ok : Nat → Prop) (hsrc : Src g sc n iter ρ σ xs (S 0) tgt) (h0 : Sub (J 0) ρ) (ok0 : ok 0)
    (hturn : ∀ i y, xs[i]? = some y → ok i → ∃ ρ', Asg g sc n tgt y (J i) ρ' ∧ Ex g sc n body ρ' (S i) (Lp (J (i + 1)) (S (i + 1)) (ok (i + 1)) (fun r s => Ex g sc n rest r s Φ) Φ))
    (hend : ok xs.length → Ex g sc n rest (J xs.length) (S xs.length) Φ) (hs : ∀ env x, foldedSetIterable iter env x = pure x := by intro _ _; rfl) :
    Ex g sc n (.For tgt iter body [] pos :: rest) ρ σ Φ := .mk fun env A R P δ s Q O hA I k => by
  refine wpAny_execs_cons (wpAny_For ?_ (hs env))
  refine wpAny_mono (hsrc.run env A R P δ s (fun it s₂ => codeAny (model g.prog g.w) A (.forLoop tgt it body [] env) (LpK (model g.prog g.w) A env rest Q) s₂) O hA I fun It wr St P₁ δ₁ h₁ tk₁ le₁ pr₁ I₁ hf₁ W st₁ => ?_) (fun _ _ x => wpAny_mono x (fun _ _ x => x) fun _ _ e => e) fun _ _ x => x
  have W := W A hA.handled
  refine codeAny_forLoop_any (LpI g R env wr St J S ok P₁ δ₁ xs.length s) ?_ xs.length ⟨P₁, δ₁, h₁, tk₁, 0, rfl, fun _ _ z => z, List.prefix_refl _, I₁.forget h0, hf₁, st₁, ok0, Nat.zero_le _, rfl⟩
  rintro m s' ⟨P', δ', h', tk', i, rfl, le, pr, I', hf, st, hok, hi, rfl⟩
  by_cases hlt : i < xs.length
  · obtain ⟨ρ', ha, hx⟩ := hturn i xs[i] (List.getElem?_eq_getElem hlt) hok
    refine wpAny_mono (W.turn O hA (i := i) (s := { s with heap := h', toks := tk' }) (List.getElem?_eq_getElem hlt) I' le pr hf st ha
      (Q := fun s₂ => wpAny (model g.prog g.w) A (execs body env) (LpQ (LpK (model g.prog g.w) A env rest Q) (LpI g R env wr St J S ok P₁ δ₁ xs.length s) (xs.length - i)) NoE s₂) fun P₂ δ₂ h₂ tk₂ le₂ pr₂ I₂ hf₂ st₂ => ?_) (fun r s₁ hr => ?_) fun _ _ e => e.elim
    · refine hx.run env A (held R wr h₂) P₂ δ₂ _ _ O hA.held I₂ fun o ho => ?_
      exact Lp.post (s := s) O hA I.base (W.live _ _ st₂) hf₂ hlt (fun h₃ a b => W.frame _ _ _ st₂ a (fun c o p => I₂.keepP c o (le₂ c o (le c o p))) b) le₁ pr₁ (fun b o z => le₂ b o (le b o z)) (pr.trans pr₂) k ho
    · cases r with
      | none => exact hr.elim
      | some v => exact wpAny_mono hr (fun _ _ z => wpAny_mono z (fun _ _ z => wpAny_mono z (fun f s z => by cases f <;> exact z) fun _ _ e => e.elim) fun _ _ e => e.elim) fun _ _ e => e.elim
  · have hn : i = xs.length := by omega
    subst hn
    refine wpAny_mono (W.done { s with heap := h', toks := tk' } (fun r s₁ => r = none ∧ wpAny (model g.prog g.w) A (execs rest env) Q NoE s₁) st (fun b o p => I'.keepP b o (le b o p)) fun h₂ tk₂ hk => ⟨rfl, ?_⟩) (fun r s₁ hr => ?_) fun _ _ e => e.elim
    · have I₂ : Inv g R P' δ' env (J xs.length) (S xs.length) h₂ := I'.keeps fun b o k e => hk b o (fun hm => by
        have f := hf b hm
        rcases k with ⟨q, k⟩ | ⟨q, k⟩ | k | k
        · exact f.r _ k
        · exact f.p _ k
        · exact f.d k
        · exact f.s k) e
      exact (hend hok).run env A R P' δ' { s with heap := h₂, toks := tk₂ } Q O hA I₂ fun o ho => (k o ho).mono (fun b o z => le b o (le₁ b o z)) (pr₁.trans pr)
    · obtain ⟨rfl, hr⟩ := hr
      exact wpAny_execs_nil hr

theorem get_ge (h : Heap) {a : Addr} (ha : h.objs.size ≤ a) : h.get? a = none := by
  cases e : h.get? a with
  | none => rfl
  | some o => exact absurd (Heap.lt_size e) (Nat.not_lt.mpr ha)

/-- what is iterated over is a list -/
theorem src_list {iter tgt : Expr} {xs : List V} (h1 : Ev g sc n iter ρ σ (.list xs) σ₁) (ht : isNameE tgt = true ∨ ((∃ elts k pos, tgt = .Tuple elts k pos) ∧ ∀ y ∈ xs, ∃ ys, y = .tup ys)) : Src g sc n iter ρ σ xs σ₁ tgt := .mk fun env A R P δ s Q O hA I h => by
  refine h1.run env A R P δ s _ O hA I fun v P₁ δ₁ hh₁ tk₁ le₁ pr₁ I₁ s₁ => ?_
  obtain ⟨a, o, vs, m, rfl, h1, h2, h3, h4⟩ := s₁.tells
  have ho := I₁.keepP _ _ h1
  have hlist : hh₁.IsList a vs.toArray := ⟨o, ho, h2, m, h3⟩
  have hlt := Heap.lt_size ho
  have hne : a ≠ hh₁.objs.size := Nat.ne_of_lt hlt
  have hlen := h4.length
  refine wpAny_pyIter_list hlist ?_
  refine h hh₁.objs.size [hh₁.objs.size] (fun i h => h.IsListIter hh₁.objs.size a i ∧ h.IsList a vs.toArray) P₁ δ₁ _ tk₁ le₁ pr₁ (I₁.grows fun b o e => Heap.get?_push_of_some _ e) (fun b hb => List.mem_singleton.mp hb ▸ I₁.free (get_size_none hh₁)) (fun A' hA' => ?_)
    ⟨⟨_, Heap.get?_push_size _ rfl, rfl, rfl⟩, hlist.push _⟩
  have W := Walks.list (prog := g.prog) (w := g.w) hA' hh₁.objs.size a hne vs.toArray
  refine ⟨?_, ?_, ?_, fun i s Q st hQ => W.self i s Q NoE st hQ, ?_⟩
  · rintro i h ⟨⟨o, e, _, hd⟩, _⟩ b hb
    rw [List.mem_singleton.mp hb]
    exact ⟨o, e, fun v c => by rw [hd] at c; cases c⟩
  · rintro i h h' ⟨st1, st2⟩ hw hp hp'
    exact ⟨st1.at fun o e => hw _ (List.mem_singleton.mpr rfl) o e, ⟨o, hp' _ _ h1, h2, m, h3⟩⟩
  · intro i y s Q hy st hp hQ
    have hi : i < xs.length := (List.getElem?_eq_some_iff.mp hy).1
    refine wpAny_mono (W.item i s (fun r s₁ => match r with
      | none => False
      | some v => wpAny (model g.prog g.w) A' (letOwnedTupleGo tgt (.ref hh₁.objs.size) v) (fun _ s' => Q v s') NoE s₁) NoE (by simp; omega) st fun v h' tk hv st' hk => ?_) (fun _ _ x => x) fun _ _ x => x
    have hv' : vs[i]? = some v := by simpa using hv
    have hs := h4.2 i v y hv' hy
    have hq := hQ v h' tk st' (.inl hs) hk
    rcases ht with ht | ⟨⟨elts, k, pos, rfl⟩, hys⟩
    · obtain ⟨_, _, rfl⟩ := nameE_tells ht; exact wpAny_pure hq
    · obtain ⟨ys, rfl⟩ := hys y (List.mem_of_getElem? hy)
      obtain ⟨T, _, _, _, rfl, _⟩ := hs.tells
      exact wpAny_letOwnedTupleGo_listiter (s := { s with heap := h', toks := tk }) st'.1 hq
  · intro s Q st hp hQ
    exact W.done s Q NoE (by have : vs.toArray.size = xs.length := by simp [hlen]
                             rw [this]; exact st) hQ
theorem src_tup {iter tgt : Expr} {xs : List V} (h1 : Ev g sc n iter ρ σ (.tup xs) σ₁) (ht : isNameE tgt = true) : Src g sc n iter ρ σ xs σ₁ tgt := .mk fun env A R P δ s Q O hA I h => by
  refine h1.run env A R P δ s _ O hA I fun v P₁ δ₁ hh₁ tk₁ le₁ pr₁ I₁ s₁ => ?_
  obtain ⟨a, o, vs, m, rfl, h1, h2, h3, h4⟩ := s₁.tells
  have ho := I₁.keepP _ _ h1
  have hlist : hh₁.IsTuple a vs.toArray := ⟨o, ho, h2, m, h3⟩
  have hlt := Heap.lt_size ho
  have hne : a ≠ hh₁.objs.size := Nat.ne_of_lt hlt
  have hlen := h4.length
  refine wpAny_pyIter_tuple hlist ?_
  refine h hh₁.objs.size [hh₁.objs.size] (fun i h => h.IsTupleIter hh₁.objs.size a i ∧ h.IsTuple a vs.toArray) P₁ δ₁ _ tk₁ le₁ pr₁ (I₁.grows fun b o e => Heap.get?_push_of_some _ e) (fun b hb => List.mem_singleton.mp hb ▸ I₁.free (get_size_none hh₁)) (fun A' hA' => ?_)
    ⟨⟨_, Heap.get?_push_size _ rfl, rfl, rfl⟩, ⟨o, Heap.get?_push_of_some _ ho, h2, m, h3⟩⟩
  have W := Walks.tuple (prog := g.prog) (w := g.w) hA' hh₁.objs.size a hne vs.toArray
  refine ⟨?_, ?_, ?_, fun i s Q st hQ => W.self i s Q NoE st hQ, ?_⟩
  · rintro i h ⟨⟨o, e, _, hd⟩, _⟩ b hb
    rw [List.mem_singleton.mp hb]
    exact ⟨o, e, fun v c => by rw [hd] at c; cases c⟩
  · rintro i h h' ⟨st1, st2⟩ hw hp hp'
    exact ⟨st1.at fun o e => hw _ (List.mem_singleton.mpr rfl) o e, ⟨o, hp' _ _ h1, h2, m, h3⟩⟩
  · intro i y s Q hy st hp hQ
    have hi : i < xs.length := (List.getElem?_eq_some_iff.mp hy).1
    refine wpAny_mono (W.item i s (fun r s₁ => match r with
      | none => False
      | some v => wpAny (model g.prog g.w) A' (letOwnedTupleGo tgt (.ref hh₁.objs.size) v) (fun _ s' => Q v s') NoE s₁) NoE (by simp; omega) st fun v h' tk hv st' hk => ?_) (fun _ _ x => x) fun _ _ x => x
    have hv' : vs[i]? = some v := by simpa using hv
    have hs := h4.2 i v y hv' hy
    have hq := hQ v h' tk st' (.inl hs) hk
    obtain ⟨_, _, rfl⟩ := nameE_tells ht; exact wpAny_pure hq
  · intro s Q st hp hQ
    exact W.done s Q NoE (by have : vs.toArray.size = xs.length := by simp [hlen]
                             rw [this]; exact st) hQ

theorem Wkr.ofT {A : Around} {I : Addr} {fp wr wr' : List Addr} {xs : List V} {Pt : Nat → Array Value → Prop} {St : Nat → Heap → Prop} {Mid : Nat → Addr → Heap → Prop} {elts : List Expr} {k : Nat} {pos : Pos} (W : WalksT g.prog g.w A I fp wr xs.length Pt St Mid) (hsub : ∀ b ∈ wr, b ∈ wr')
    (hfp : ∀ b ∈ fp, b ∈ wr' ∨ ∃ o, P b o) (hlive : ∀ i h, St i h → ∀ b ∈ wr', ∃ o, h.get? b = some o ∧ ∀ v, o.data ≠ .cell v) (hpt : ∀ i vals y, Pt i vals → xs[i]? = some y → ∃ ys, y = .tup ys ∧ g.SeesL P δ vals.toList ys) :
    Wkr g A P δ I wr' xs (.Tuple elts k pos) St where
  live := hlive
  frame := fun i h h' st hw hp hp' => W.frame i h h' st fun b hb o e => by
    rcases hfp b hb with hb | ⟨o', p⟩
    · exact hw b hb o e
    · have := hp b o' p
      rw [this] at e; cases e
      exact hp' b o p
  item := fun i y s Q hy st hp hQ => by
    have hi : i < xs.length := (List.getElem?_eq_some_iff.mp hy).1
    refine W.item i s _ NoE hi st fun T vals h' tk hv hsz hT hmid hk => ?_
    obtain ⟨ys, rfl, hs⟩ := hpt i vals y hv hy
    refine W.go elts k pos i T { s with heap := h', toks := tk } _ NoE hmid fun h'' st' hk' => ?_
    have hTw := W.apart i T h' hmid
    obtain ⟨o, ho, hc, m, hd⟩ := hT
    exact hQ (.ref T) h'' tk st' (.inr ⟨T, vals.toList, ys, rfl, rfl, get_ge s.heap hsz, ⟨o, hk' T o hTw ho, hc, m, by simpa using hd⟩, hs⟩) fun b o hb e => hk' b o (fun z => hb (hsub b z)) (hk b o (fun z => hb (hsub b z)) e)
  self := fun i s Q st hQ => W.self i s Q NoE st hQ
  done := fun s Q st hp hQ => W.done s Q NoE st fun h' tk hk => hQ h' tk fun b o hb e => hk b o (fun z => hb (hsub b z)) e

theorem src_enum {pf pos pt : Pos} {e : Expr} {elts : List Expr} {k : Nat} {xs : List V} (h1 : Ev g sc n e ρ σ (.list xs) σ₁) (he : isStar e = false := by rfl) (hf : isGlob sc "enumerate" = true := by decide +kernel) (hm : g.mg "enumerate" = none := by first | assumption | exact (‹Has g _›).blt _ (by decide +kernel)) :
    Src g sc n (.Call (.Name "enumerate" pf) [e] [] pos) ρ σ (xs.zipIdx.map fun p => .tup [.int p.2, p.1]) σ₁ (.Tuple elts k pt) := .mk fun env A R P δ s Q O hA I h => by
  have hp : noStar [e] = true := by unfold noStar; simp [he]
  refine wpAny_Call_NameR (wp_builtin O I hf hm (v := .type "enumerate") (by decide +kernel) (by decide) (PySem.callWith_type (noStar_any hp) (evalArgs_first (noStar_first hp) ?_)))
  refine (evl_cons h1 evl_nil he).run env A R P δ s _ O hA I fun vs P₁ δ₁ hh₁ tk₁ le₁ pr₁ I₁ s₁ => ?_
  obtain ⟨v, rfl, s₂⟩ := s₁.one
  obtain ⟨a, o, vs, m, rfl, h1, h2, h3, h4⟩ := s₂.tells
  have ho := I₁.keepP _ _ h1
  have hlist : hh₁.IsList a vs.toArray := ⟨o, ho, h2, m, h3⟩
  have hlt := Heap.lt_size ho
  have hlen := h4.length
  refine call_enumerate_list (s := { s with heap := hh₁, toks := tk₁ }) hlist fun h' hen hit hsz hk => ?_
  refine wpAny_pyIter_enum hen ?_
  refine h (hh₁.objs.size + 1) [hh₁.objs.size + 1, hh₁.objs.size] (fun i h => (∃ old, IsEnum h (hh₁.objs.size + 1) hh₁.objs.size i old) ∧ h.IsListIter hh₁.objs.size a i ∧ h.IsList a vs.toArray) P₁ δ₁ h' tk₁ le₁ pr₁ (I₁.grows hk) (fun b hb => ?_) (fun A' hA' => ?_)
    ⟨⟨_, hen⟩, hit, ⟨o, hk _ _ ho, h2, m, h3⟩⟩
  · rcases List.mem_cons.mp hb with rfl | hb
    · exact I₁.free (get_ge hh₁ (Nat.le_succ _))
    · rw [List.mem_singleton.mp hb]; exact I₁.free (get_size_none hh₁)
  · have W := WalksT.enumerate (prog := g.prog) (w := g.w) hA' (hh₁.objs.size + 1) hh₁.objs.size a (Nat.succ_ne_self _) (Nat.ne_of_lt (Nat.lt_succ_of_lt hlt)) (Nat.ne_of_lt hlt) vs.toArray
    have hn : vs.toArray.size = (xs.zipIdx.map fun p => V.tup [.int p.2, p.1]).length := by simp [hlen]
    rw [hn] at W
    refine Wkr.ofT W (fun b z => z) (fun b hb => ?_) ?_ ?_
    · simp at hb
      rcases hb with rfl | rfl | rfl
      · exact .inl (by simp)
      · exact .inl (by simp)
      · exact .inr ⟨o, h1⟩
    · rintro i h ⟨⟨old, hE⟩, ⟨o', e', _, hd'⟩, _⟩ b hb
      rcases List.mem_cons.mp hb with rfl | hb
      · exact ⟨_, hE, fun v c => by cases c⟩
      · rw [List.mem_singleton.mp hb]; exact ⟨o', e', fun v c => by rw [hd'] at c; cases c⟩
    · rintro i vals y ⟨t, x, hx, rfl⟩ hy
      rw [List.getElem?_map] at hy
      obtain ⟨p, hp, rfl⟩ := Option.map_eq_some_iff.mp hy
      rw [List.getElem?_zipIdx] at hp
      obtain ⟨x', hx', rfl⟩ := Option.map_eq_some_iff.mp hp
      refine ⟨_, rfl, .cons ?_ (.cons (h4.2 i x x' (by simpa using hx) hx') .nil)⟩
      have : ((0 + i : Nat) : Int) = (i : Int) := by omega
      rw [this]
      exact .int _ _

end
end Mine
end
section
open PySem PySem.W PyProof.Rows PySem.Calls PySem.SeqAt
set_option Elab.async false
set_option linter.unusedVariables false
set_option maxRecDepth 100000
namespace Mine
section
variable {g : Glo} {R : RS} {P P' : PS} {δ δ' : List Addr} {env : Env} {ρ ρ' ρ₁ ρ₂ : Loc} {σ σ' σ₁ σ₂ σ₃ : List MO} {h h' : Heap} {sc : Scope} {n : Nat} {Φ : Out → Prop} {rest : List Stmt}

theorem ex_while {test : Expr} {body : List Stmt} {pos : Pos} (J : Nat → Loc) (S : Nat → List MO) (ok : Nat → Prop) (N : Nat) (hσ : σ = S 0) (h0 : Sub (J 0) ρ) (ok0 : ok 0)
    (hturn : ∀ i, i < N → ok i → EvB g sc n test (J i) (S i) true (S i) ∧ Ex g sc n body (J i) (S i) (Lp (J (i + 1)) (S (i + 1)) (ok (i + 1)) (fun r s => Ex g sc n rest r s Φ) Φ))
    (hend : ok N → EvB g sc n test (J N) (S N) false (S N) ∧ Ex g sc n rest (J N) (S N) Φ) : Ex g sc n (.While test body [] pos :: rest) ρ σ Φ := .mk fun env A R P δ s Q O hA I k => by
  subst hσ
  refine wpAny_execs_cons (wpAny_While ?_)
  have conv : codeAny (model g.prog g.w) A (.whileLoop test body [] env) (LpK (model g.prog g.w) A env rest Q) s := by
    refine codeAny_whileLoop (LpI g R env [] (fun _ _ => True) J S ok P δ N s) ?_ N ⟨P, δ, s.heap, s.toks, 0, rfl, fun _ _ z => z, List.prefix_refl _, I.forget h0, fun b hb => (by cases hb), trivial, ok0, Nat.zero_le _, rfl⟩
    rintro m s' ⟨P', δ', h', tk', i, rfl, le, pr, I', hf, st, hok, hi, rfl⟩
    by_cases hlt : i < N
    · obtain ⟨ht, hx⟩ := hturn i hlt hok
      refine wpAny_mono (ht.run env A R P' δ' { s with heap := h', toks := tk' } (fun b s₂ => if b = true then wpAny (model g.prog g.w) A (execs body env) (LpQ (LpK (model g.prog g.w) A env rest Q) (LpI g R env [] (fun _ _ => True) J S ok P δ N s) (N - i)) NoE s₂ else False) O hA I' fun b P₁ δ₁ h₁ tk₁ le₁ pr₁ I₁ e => ?_) (fun b s₂ hb => ?_) fun _ _ e => e.elim
      · subst e
        rw [if_pos rfl]
        have hfe : ∀ b ∈ ([] : List Addr), Free R P₁ δ₁ env b := fun b hb => by cases hb
        refine hx.run env A (held R [] h₁) P₁ δ₁ _ _ O hA.held (I₁.hold hfe) fun o ho => ?_
        exact Lp.post (s := s) O hA I.base (fun b hb => by cases hb) hfe hlt (fun _ _ _ => trivial) (fun _ _ z => z) (List.prefix_refl _) (fun b o z => le₁ b o (le b o z)) (pr.trans pr₁) k ho
      · cases b with
        | true =>
          rw [if_pos rfl] at hb ⊢
          exact wpAny_mono hb (fun f s z => by cases f <;> exact z) fun _ _ e => e.elim
        | false => exact hb.elim
    · have hn : i = N := by omega
      subst hn
      obtain ⟨ht, hx⟩ := hend hok
      refine wpAny_mono (ht.run env A R P' δ' { s with heap := h', toks := tk' } (fun b s₂ => b = false ∧ wpAny (model g.prog g.w) A (execs rest env) Q NoE s₂) O hA I' fun b P₁ δ₁ h₁ tk₁ le₁ pr₁ I₁ e => ⟨e, ?_⟩) (fun b s₂ hb => ?_) fun _ _ e => e.elim
      · exact hx.run env A R P₁ δ₁ _ Q O hA I₁ fun o ho => (k o ho).mono (fun b o z => le₁ b o (le b o z)) (pr.trans pr₁)
      · obtain ⟨rfl, hb⟩ := hb
        simp only [Bool.false_eq_true, if_false]
        exact wpAny_execs_nil hb
  refine codeAny_mono conv fun r s' z => ?_
  cases r with
  | ok f => cases f <;> exact z
  | error e => exact z
end
end Mine
end
section
open PySem PySem.W PyProof.Rows PySem.Calls PySem.SeqAt
set_option Elab.async false
set_option linter.unusedVariables false
set_option maxRecDepth 100000
namespace Mine

/-- the scope of a comprehension, within that of its function -/
noncomputable def relab (scope sc : Scope) : Scope := { scope with names := scope.names.map fun (n, k) => if (k == .free && sc.kind == .function && sc.names.lookup n == some .cell) then (n, .cell) else (n, k) }
theorem relabel_eq {env : Env} {sc scope : Scope} (h : env.scope = sc) : relabel scope env = relab scope sc := by
  unfold relabel relab Env.kindOf
  rw [h]

theorem closureFor_ok {scope : Scope} {env : Env} (h : ∀ x ∈ scope.names, x.2 = .free → ∃ a, env.cells.lookup x.1 = some a) :
    ∃ cl, closureFor scope env = pure cl ∧ (∀ n a, cl.lookup n = some a → env.cells.lookup n = some a) ∧ ∀ x ∈ scope.names, x.2 = .free → ∃ a, cl.lookup x.1 = some a := by
  unfold closureFor
  have key : ∀ (l : List (Str × NameKind)) (acc : List (Str × Addr)), (∀ x ∈ l, x.2 = .free → ∃ a, env.cells.lookup x.1 = some a) → (∀ n a, acc.lookup n = some a → env.cells.lookup n = some a) →
      ∃ cl, (forIn l acc (fun (x : Str × NameKind) (cs : List (Str × Addr)) => match x with
        | (name, kind) => if (kind == NameKind.free) = true then do
            let a ← cellOf env name
            pure (ForInStep.yield ((name, a) :: cs))
          else pure (ForInStep.yield cs)) : Sem (List (Str × Addr))) = pure cl ∧ (∀ n a, cl.lookup n = some a → env.cells.lookup n = some a) ∧ (∀ x ∈ l, x.2 = .free → ∃ a, cl.lookup x.1 = some a) ∧ ∀ n a, acc.lookup n = some a → ∃ a', cl.lookup n = some a' := by
    intro l
    induction l with
    | nil => intro acc _ ha; exact ⟨acc, rfl, ha, fun x hx => (nomatch hx), fun n a e => ⟨a, e⟩⟩
    | cons x r ih =>
      intro acc hl ha
      obtain ⟨n, k⟩ := x
      by_cases hk : (k == NameKind.free) = true
      · have hkf : k = .free := by simpa using hk
        obtain ⟨a, ea⟩ := hl (n, k) List.mem_cons_self hkf
        obtain ⟨cl, e, h1, h2, h3⟩ := ih ((n, a) :: acc) (fun x hx => hl x (List.mem_cons_of_mem _ hx)) (fun n' a' e' => by
          rw [List.lookup_cons] at e'
          by_cases hn : n' = n
          · subst hn; simp only [beq_self_eq_true] at e'; cases e'; exact ea
          · have : (n' == n) = false := by simpa using hn
            rw [this] at e'; exact ha _ _ e')
        refine ⟨cl, ?_, h1, fun x hx hf => ?_, fun n' a' e' => ?_⟩
        · rw [List.forIn_cons]
          simp only [hk, if_true]
          have hc : cellOf env n = pure a := by unfold cellOf; rw [ea]
          rw [hc]
          exact e
        · rcases List.mem_cons.mp hx with rfl | hx
          · exact h3 n a (by simp)
          · exact h2 x hx hf
        · by_cases hn : n' = n
          · subst hn; exact h3 n' a (by simp)
          · exact h3 n' a' (by
              rw [List.lookup_cons]
              have : (n' == n) = false := by simpa using hn
              rw [this]; exact e')
      · obtain ⟨cl, e, h1, h2, h3⟩ := ih acc (fun x hx => hl x (List.mem_cons_of_mem _ hx)) ha
        refine ⟨cl, ?_, h1, fun x hx hf => ?_, h3⟩
        · rw [List.forIn_cons]
          simp only [hk]
          exact e
        · rcases List.mem_cons.mp hx with rfl | hx
          · exact absurd hf (by simpa using hk)
          · exact h2 x hx hf
  obtain ⟨cl, e, h1, h2, _⟩ := key scope.names [] h (fun n a e => by cases e)
  refine ⟨cl, ?_, h1, h2⟩
  show (forIn scope.names [] _ >>= fun cs => pure cs) = pure cl
  rw [bind_pure]
  exact e

section
variable {g : Glo} {R : RS} {P P' : PS} {δ δ' : List Addr} {env cenv : Env} {ρ ρ' ρc ρ₁ ρ₂ : Loc} {σ σ' σ₁ σ₂ σ₃ : List MO} {h h' : Heap} {sc : Scope} {n : Nat} {Φ : Out → Prop} {rest : List Stmt}

/-- while a comprehension runs, its function's frame stays as it is, but for the names they share -/
noncomputable def within (R : RS) (env cenv : Env) (h : Heap) : RS := ⟨R.ex, fun b o => R.up b o ∨ (slot env b ∧ ¬ slot cenv b ∧ h.get? b = some o)⟩
theorem within_any {b : Addr} {o : Obj} (x : (within R env cenv h).any b o) : R.any b o ∨ (slot env b ∧ ¬ slot cenv b ∧ h.get? b = some o) := by
  rcases x with x | x | x
  · exact .inl (.inl x)
  · exact .inl (.inr x)
  · exact .inr x
theorem any_within {b : Addr} {o : Obj} (x : R.any b o) : (within R env cenv h).any b o := by
  rcases x with x | x
  · exact .inl x
  · exact .inr (.inl x)

/-- the names of a comprehension that are its function's -/
structure Shares (env cenv : Env) (C : Addr) (ρc ρ : Loc) : Prop where
  loc : cenv.locals = C
  cells : ∀ x c, cenv.kindOf x = some .cell → cenv.cells.lookup x = some c → env.kindOf x = some .cell ∧ env.cells.lookup x = some c
  has : ∀ x, cenv.kindOf x = some .cell → ∃ c, cenv.cells.lookup x = some c
  sub : ∀ x y, ρc.lookup x = some y → ρ.lookup x = some y ∧ cenv.kindOf x = some .cell
  all : ∀ x y, cenv.kindOf x = some .cell → ρ.lookup x = some y → ρc.lookup x = some y

theorem Inv.inner {C : Addr} (I : Inv g R P δ env ρ σ h) (hs : Shares env cenv C ρc ρ) (hC : h.get? C = none) (hn : h'.Ns C (fun _ => none)) (hk : ∀ b o, h.get? b = some o → h'.get? b = some o) : Inv g (within R env cenv h) P δ cenv ρc σ h' := by
  have I' := I.grows hk
  have f := I.free hC
  have sl : ∀ a, slot cenv a → a = C ∨ slot env a := by
    rintro a (rfl | ⟨x, hx, hc⟩)
    · exact .inl hs.loc
    · obtain ⟨e1, e2⟩ := hs.cells x a hx hc
      exact .inr (.inr ⟨x, e1, e2⟩)
  refine
  { keepR := I'.keepR, keepU := ?_, part := ?_, keepP := I'.keepP, base := I.base, sep := ?_, loc := ?_, cel := ?_, one := ?_, nloc := ?_, offP := ?_, offR := ?_, offD := ?_, dP := I.dP, dR := ?_, dN := I.dN, len := I.len, objs := I'.objs }
  · rintro b o (r | ⟨_, _, e⟩)
    · exact I'.keepU b o r
    · exact ⟨o.slots, hk _ _ e⟩
  · rintro b o o' r (u | ⟨hs', _, e⟩)
    · exact I.part b o o' r u
    · exact I.offR b o hs' (.inl r)
  · intro b o o' p q
    rcases within_any q with r | ⟨hs', _, e⟩
    · exact I.sep b o o' p r
    · exact absurd p (I.offP b o hs')
  · refine ⟨_, by rw [hs.loc]; exact hn, fun x y e => ?_⟩
    obtain ⟨e1, e2⟩ := hs.sub x y e
    obtain ⟨m, _, hm⟩ := I.loc
    obtain ⟨v, hv, hl⟩ := hm x y e1
    obtain ⟨c, hc⟩ := hs.has x e2
    obtain ⟨k1, k2⟩ := hs.cells x c e2 hc
    refine ⟨v, hv, .inr (.inl ⟨e2, c, hc, ?_⟩)⟩
    rcases hl with ⟨l, _⟩ | ⟨_, c', hc', o, ho, hd⟩ | ⟨l, _⟩
    · rw [k1] at l; cases l
    · rw [k2] at hc'; cases hc'
      exact ⟨o, hk _ _ ho, hd⟩
    · rw [k1] at l; cases l
  · intro x hx
    obtain ⟨c, hc⟩ := hs.has x hx
    obtain ⟨k1, k2⟩ := hs.cells x c hx hc
    obtain ⟨c', ov, e, o, ho, hd⟩ := I.cel x k1
    rw [k2] at e; cases e
    exact ⟨c, ov, hc, o, hk _ _ ho, hd⟩
  · intro x y c hx hy hxc hyc
    obtain ⟨a1, a2⟩ := hs.cells x c hx hxc
    obtain ⟨b1, b2⟩ := hs.cells y c hy hyc
    exact I.one x y c a1 b1 a2 b2
  · intro x hx e
    obtain ⟨a1, a2⟩ := hs.cells x _ hx e
    rw [hs.loc] at a2
    exact f.s (.inr ⟨x, a1, a2⟩)
  · intro a o ha p
    rcases sl a ha with rfl | ha
    · exact f.p o p
    · exact I.offP a o ha p
  · intro a o ha q
    rcases within_any q with r | ⟨_, hns, _⟩
    · rcases sl a ha with rfl | ha
      · exact f.r o r
      · exact I.offR a o ha r
    · exact hns ha
  · intro a ha hd
    rcases sl a ha with rfl | ha
    · exact f.d hd
    · exact I.offD a ha hd
  · intro a o hd q
    rcases within_any q with r | ⟨hs', _, e⟩
    · exact I.dR a o hd r
    · exact I.offD a hs' hd

theorem Inv.outer {C : Addr} (I : Inv g R P δ env ρ σ h) (hs : Shares env cenv C ρc ρ) (hC : h.get? C = none) (le : ∀ b o, P b o → P' b o) (pr : δ <+: δ') (J : Inv g (within R env cenv h) P' δ' cenv ρc σ' h') : Inv g R P' δ' env ρ σ' h' := by
  have f := I.free hC
  have hLn : ¬ slot cenv env.locals := by
    rintro (e | ⟨x, hx, hc⟩)
    · exact f.s (.inl (by rw [← hs.loc]; exact e.symm))
    · obtain ⟨a1, a2⟩ := hs.cells x _ hx hc
      exact I.nloc x a1 a2
  have keepS : ∀ b o, slot env b → ¬ slot cenv b → h.get? b = some o → ∃ sl, h'.get? b = some { o with slots := sl } := fun b o a b' e => J.keepU b o (.inr ⟨a, b', e⟩)
  refine
  { keepR := J.keepR, keepU := fun b o r => J.keepU b o (.inl r), part := I.part, keepP := J.keepP, base := I.base, sep := fun b o o' x y => J.sep b o o' x (any_within y), loc := ?_, cel := ?_, one := I.one, nloc := I.nloc, offP := ?_, offR := I.offR, offD := ?_, dP := J.dP, dR := fun a o x r => J.dR a o x (any_within r), dN := J.dN, len := J.len, objs := J.objs }
  · obtain ⟨m, ⟨o, es, ep, ho, r⟩, hm⟩ := I.loc
    obtain ⟨sl, hsl⟩ := keepS _ _ (.inl rfl) hLn ho
    refine ⟨m, ⟨_, es, ep, hsl, r⟩, fun x y e => ?_⟩
    obtain ⟨v, hv, hl⟩ := hm x y e
    rcases hl with l | ⟨h1, c, h2, o', ho', hd⟩ | ⟨h1, c, o', h2, r', hd⟩
    · exact ⟨v, hv.mono le pr, .inl l⟩
    · by_cases hq : slot cenv c
      · rcases hq with e' | ⟨x', hx', hc'⟩
        · exact absurd (.inr ⟨x, h1, by rw [h2, e', hs.loc]⟩) f.s
        · obtain ⟨a1, a2⟩ := hs.cells x' c hx' hc'
          have := I.one x x' c h1 a1 h2 a2
          subst this
          obtain ⟨m', _, hm'⟩ := J.loc
          obtain ⟨v', hv', hl'⟩ := hm' x y (hs.all x y hx' e)
          refine ⟨v', hv', .inr (.inl ⟨h1, c, h2, ?_⟩)⟩
          rcases hl' with ⟨l, _⟩ | ⟨_, c'', hc'', r''⟩ | ⟨l, _⟩
          · rw [hx'] at l; cases l
          · rw [hc'] at hc''; cases hc''; exact r''
          · rw [hx'] at l; cases l
      · obtain ⟨sl, hsl⟩ := keepS _ _ (.inr ⟨x, h1, h2⟩) hq ho'
        exact ⟨v, hv.mono le pr, .inr (.inl ⟨h1, c, h2, _, hsl, hd⟩)⟩
    · exact ⟨v, hv.mono le pr, .inr (.inr ⟨h1, c, o', h2, r', hd⟩)⟩
  · intro x hx
    obtain ⟨c, ov, hc, o, ho, hd⟩ := I.cel x hx
    by_cases hq : slot cenv c
    · rcases hq with e' | ⟨x', hx', hc'⟩
      · exact absurd (.inr ⟨x, hx, by rw [hc, e', hs.loc]⟩) f.s
      · obtain ⟨c', ov', e, r⟩ := J.cel x' hx'
        rw [hc'] at e; cases e
        exact ⟨c, ov', hc, r⟩
    · obtain ⟨sl, hsl⟩ := keepS _ _ (.inr ⟨x, hx, hc⟩) hq ho
      exact ⟨c, ov, hc, _, hsl, hd⟩
  · intro a o ha p
    by_cases hq : slot cenv a
    · exact J.offP a o hq p
    · obtain ⟨q, hq'⟩ := I.slot_lt ha
      obtain ⟨z, hz⟩ := J.sep a o q p (.inr (.inr ⟨ha, hq, hq'⟩))
      exact I.offR _ _ ha (.inl (I.base _ _ hz))
  · intro a ha hd
    by_cases hq : slot cenv a
    · exact J.offD a hq hd
    · obtain ⟨q, hq'⟩ := I.slot_lt ha
      exact J.dR a q hd (.inr (.inr ⟨ha, hq, hq'⟩))
end
end Mine
end
section
open PySem PySem.W PyProof.Rows PySem.Calls PySem.SeqAt
set_option Elab.async false
set_option linter.unusedVariables false
set_option maxRecDepth 100000
namespace Mine
/-- a set of truth values -/
noncomputable def esB (f t : Bool) : Array (Int × Value) := match f, t with
  | false, false => #[]
  | true, false => #[(0, .bool false)]
  | false, true => #[(1, .bool true)]
  | true, true => #[(0, .bool false), (1, .bool true)]
noncomputable def tbB (led f t : Bool) : SetTable := { SetTable.fresh 0 0 led with place := match f, t with
  | false, false => #[]
  | true, false => #[0]
  | false, true => #[1]
  | true, true => #[0, 1] }
noncomputable def setO (led f t : Bool) (ep : Nat) : Obj := { cls := .type "set", dict := none, data := .set (esB f t) ep (tbB led f t) }
noncomputable def hashB (b : Bool) : Int := if b then 1 else 0
theorem slot_bool_hash : Slot "bool" "__hash__" "int.__hash__" :=
  .of (owner := "int") (n := "__hash__") (by rw [typeLookup_type, builtinLookup_eq_fast]; kernel_rfl) (by decide +kernel) (by decide +kernel) (by decide +kernel)
    (by first | exact .inl (by decide +kernel) | exact .inr (by decide +kernel)) (by rw [isSubtype_type]; kernel_rfl)
theorem args_bool_hash (b : Bool) : argsOk "int.__hash__" ⟨[.bool b], []⟩ := by unfold argsOk; kernel_rfl
section
variable {prog : Program} {w : World} {A : Around} {E : Value → Shared → Prop} {s : Shared}
theorem typeIs_bool (s : Shared) (b : Bool) : s.TypeIs (.bool b) "bool" := rfl
theorem wpAny_pyHash_bool {b : Bool} {Q : Int → Shared → Prop} (h : Q (hashB b) { s with toks := s.toks + 1 }) :
    wpAny (model prog w) A (pyHash (.bool b)) Q E s := by
  unfold pyHash
  have hv : [Value.bool b].any Value.onHeap = false := rfl
  refine wpAny_bind ?_
  rw [cRoomFor, if_neg (by rw [hv]; exact Bool.false_ne_true)]; refine wpAny_pure ?_
  refine wpAny_bind (wpAny_specialOf (typeIs_bool s b) slot_bool_hash.lookup ?_)
  show wpAny _ _ (if (some (Value.builtin "int.__hash__") == some Value.none) = true then _ else _) Q E s
  rw [if_neg (by rw [beq_builtin_none]; exact Bool.false_ne_true)]
  refine wpAny_bind (wpAny_specialOf (typeIs_bool s b) slot_bool_hash.lookup ?_)
  show wpAny _ _ (callSpecialIfBoundUnlessNone? (.bool b) "__hash__" _ >>= _) Q E s
  refine wpAny_bind (wpAny_callSpecialIfBoundUnlessNone?_slot (typeIs_bool s b) slot_bool_hash
    (wpAny_call_entry slot_bool_hash (typeIs_bool s b) entry_int_hash
      (show wpAny _ _ (do ret (← mkInt (rawHash (if b then 1 else 0)))) _ _ s from wpAny_ret_mkInt ?_) (args_bool_hash _)))
  cases b
  · exact wpAny_pure h
  · exact wpAny_pure h
theorem eqBool_same {b : Bool} {Q : Bool → Shared → Prop} (h : Q true s) : wpAny (model prog w) A (eqBool (.bool b) (.bool b)) Q E s := by
  unfold eqBool
  have hv : (Value.bool b == Value.bool b) = true := beq_self_eq_true _
  show wpAny _ _ (if (Value.bool b == Value.bool b) = true then _ else _) Q E s
  rw [if_pos hv]
  exact wpAny_bind (wpAny_rule (wpAny_pure h))
theorem fits_setO (led f t : Bool) : (tbB led f t).fits (esB f t).size = true := by cases f <;> cases t <;> cases led <;> rfl
theorem byScan_setO (b f t : Bool) : byScan (.bool b) (esB f t) = true := by revert b f t; decide +kernel
theorem layNew_setO (led f t b : Bool) (h : (if b then t else f) = false) : layNew (tbB led f t) (esB f t) (hashB b) (.bool b) = (esB (f || !b) (t || b), tbB led (f || !b) (t || b), false, false) := by
  cases f <;> cases t <;> cases b <;> first | cases h; done | (cases led <;> rfl) | exact absurd h (by decide)
theorem update_eq {h : Heap} {a : Addr} {o o' : Obj} (g : Obj → Obj) (ho : h.get? a = some o) (hg : g o = o') (hf : o'.isFreed = false) : (h.update a g).get? a = some o' := by
  subst hg; exact Heap.get?_update_self g ho hf
theorem scan_head {D : Addr} {o : Obj} {es : Array (Int × Value)} {ep : Nat} {t : SetTable} {b : Bool} {hb : Int} {rest : List (Int × Value)} {i : Nat} {Q : ScanMet → Shared → Prop} (ho : s.heap.get? D = some o) (hd : o.data = .set es ep t) (hf : t.fits es.size = true)
    (h : Q (.found i) s) : wpAny (model prog w) A (setScanFrom D (.bool b) hb true ((hb, .bool b) :: rest) i) Q E s := by
  unfold setScanFrom
  rw [if_pos (by simp)]
  refine wpAny_bind (wpAny_setEpoch_of ho hd hf ?_)
  refine wpAny_bind (eqBool_same ?_)
  exact wpAny_pure h
theorem scan_hit {D : Addr} {led f t : Bool} {ep : Nat} {b : Bool} {Q : ScanMet → Shared → Prop} (ho : s.heap.get? D = some (setO led f t ep)) (hin : (if b then t else f) = true) (h : ∀ i, Q (.found i) s) :
    wpAny (model prog w) A (setScanFrom D (.bool b) (hashB b) true (esB f t).toList 0) Q E s := by
  have hf := fits_setO led f t
  cases b with
  | false =>
    have : f = true := hin
    subst this
    have hl : ∃ r, (esB true t).toList = (hashB false, .bool false) :: r := by cases t <;> exact ⟨_, rfl⟩
    obtain ⟨r, hl⟩ := hl
    rw [hl]
    exact scan_head ho rfl hf (h 0)
  | true =>
    have : t = true := hin
    subst this
    cases f with
    | false => exact scan_head (rest := []) ho rfl hf (h 0)
    | true =>
      show wpAny _ _ (setScanFrom D (.bool true) (hashB true) true [(0, .bool false), (1, .bool true)] 0) _ _ _
      unfold setScanFrom
      rw [if_neg (by decide)]
      exact scan_head (rest := []) ho rfl hf (h 1)
/-- a truth value is added -/
theorem setAdd_bool {D : Addr} {led f t : Bool} {ep : Nat} {b : Bool} {Q : Bool → Shared → Prop} (ho : s.heap.get? D = some (setO led f t ep))
    (h : ∀ h' ep' r, Heap.SameBut D s.heap h' → h'.get? D = some (setO led (f || !b) (t || b) ep') → Q r { s with heap := h' }) :
    wpAny (model prog w) A (setAddHashed D (.bool b) (hashB b)) Q E s := by
  have hf := fits_setO led f t
  unfold setAddHashed setAddHashedIn
  refine wpAny_holding (wpAny_bind (wpAny_setState_of ho rfl hf ?_))
  dsimp only
  rw [byScan_setO]
  simp only [↓reduceIte]
  unfold setAddByScan
  refine wpAny_bind ?_
  refine wpAny_bind (wpAny_rule ?_)
  by_cases hin : (if b then t else f) = true
  · -- it is there already
    have stay : ∀ r, Q r s := fun r => by
      have := h s.heap ep r (Heap.SameBut.refl D s.heap) (by
        have : (f || !b) = f ∧ (t || b) = t := by cases b <;> simp_all
        rw [this.1, this.2]; exact ho)
      exact this
    refine wpAny_bind (m := setScan D (.bool b) (hashB b) true (esB f t)) ?_
    show wpAny _ _ (setScanFrom D (.bool b) (hashB b) true (esB f t).toList 0) _ _ s
    exact scan_hit ho hin fun i => wpAny_pure (wpAny_pure (stay _))
  · have hin' : (if b then t else f) = false := by simpa using hin
    refine wpAny_bind (m := setScan D (.bool b) (hashB b) true (esB f t)) ?_
    show wpAny _ _ (setScanFrom D (.bool b) (hashB b) true (esB f t).toList 0) _ _ s
    have hscan : setScanFrom D (.bool b) (hashB b) true (esB f t).toList 0 = pure .absent := by
      cases b <;> cases f <;> cases t <;> first | exact absurd hin' (by decide) | rfl
    rw [hscan]
    refine wpAny_pure ?_
    dsimp only
    rw [layNew_setO led f t b hin']
    dsimp only
    refine wpAny_bind (wpAny_of_eq (a := ()) rfl ?_)
    rw [if_pos (by cases f <;> cases t <;> cases b <;> rfl)]
    have hbv : hashByValue 8 (.bool b) = pure true := rfl
    rw [hbv]
    refine wpAny_bind ?_
    refine wpAny_pure ?_
    simp only [↓reduceIte]
    refine wpAny_bind (wpAny_storeSet_of ho rfl ?_ (by rw [sizeLine_eq]; cases f <;> cases t <;> cases b <;> decide))
    have hfull : (!false && (tbB led (f || !b) (t || b)).tooFull) = false := by cases f <;> cases t <;> cases b <;> rfl
    rw [hfull]
    simp only [Bool.false_eq_true, if_false]
    refine wpAny_pure (wpAny_pure (h _ (ep + 1) true (Heap.SameBut.update ..) (update_eq _ ho ?_ rfl)))
    exact putSet_of _ _ rfl
theorem typeIs_set {D : Addr} {led f t : Bool} {ep : Nat} (ho : s.heap.get? D = some (setO led f t ep)) : s.TypeIs (.ref D) "set" := ⟨_, ho, rfl⟩
theorem call_add_bool {D : Addr} {led f t : Bool} {ep : Nat} {b : Bool} {Q : Value → Shared → Prop} (ho : s.heap.get? D = some (setO led f t ep))
    (h : ∀ h' ep', Heap.SameBut D s.heap h' → h'.get? D = some (setO led (f || !b) (t || b) ep') → Q .none { s with heap := h', toks := s.toks + 1 }) :
    wpAny (model prog w) A (call (.builtin "set.add") [.ref D, .bool b]) Q E s := by
  refine wpAny_call_entry F.slot_set_add (typeIs_set ho) F.entry_set_add ?_ (F.args_set_add_2 _ _)
  unfold Builtin.«set.add» Builtin.Frozenset.oneOther
  simp only [List.isEmpty_nil, bind_assoc]
  unfold Builtin.Frozenset.addrOf setAdd
  refine wpAny_bind (wpAny_pure ?_)
  try dsimp only
  refine wpAny_bind (wpAny_pure ?_)
  try dsimp only
  refine wpAny_bind ?_
  refine wpAny_holding ?_
  refine wpAny_bind (wpAny_pyHash_bool ?_)
  refine setAdd_bool (s := { s with toks := s.toks + 1 }) ho fun h' ep' r hsb hS' => ?_
  show wpAny _ _ (ret Value.none) _ _ _
  exact wpAny_pure ⟨_, rfl, h h' ep' hsb hS'⟩
theorem newSet_bool {Q : Value → Shared → Prop}
    (h : Q (.ref s.heap.objs.size) { s with heap := s.heap.push (setO (!w.params.followText "set-order") false false 0) }) :
    wpAny (model prog w) A (newSet (.type "set")) Q E s := by
  unfold newSet setsByText
  refine wpAny_bind (wpAny_bind (wpAny_askSetting (wpAny_pure ?_)))
  dsimp only
  simp only [newObj]
  exact wpAny_bind (wpAny_alloc (wpAny_pure h))
end
theorem slot_set_iter : Slot "set" "__iter__" "set.__iter__" :=
  .of (owner := "set") (n := "__iter__") (by rw [typeLookup_type, builtinLookup_eq_fast]; kernel_rfl) (by decide +kernel) (by decide +kernel) (by decide +kernel)
    (by first | exact .inl (by decide +kernel) | exact .inr (by decide +kernel)) (by rw [isSubtype_type]; kernel_rfl)
theorem slot_seti_next : Slot "set_iterator" "__next__" "set_iterator.__next__" :=
  .of (owner := "set_iterator") (n := "__next__") (by rw [typeLookup_type, builtinLookup_eq_fast]; kernel_rfl) (by decide +kernel) (by decide +kernel) (by decide +kernel)
    (by first | exact .inl (by decide +kernel) | exact .inr (by decide +kernel)) (by rw [isSubtype_type]; kernel_rfl)
theorem entry_set_iter : entryFor table "set.__iter__" = some Builtin.«frozenset.__iter__» :=
  entryFor_alias (id' := "frozenset.__iter__") (by rw [fastTable_eq_tree]; kernel_rfl) rfl (by decide +kernel) (by rw [fastTable_eq_tree]; kernel_rfl)
theorem entry_seti_next : entryFor table "set_iterator.__next__" = some Builtin.«set_iterator.__next__» := entryFor_of_tree (by kernel_rfl)
theorem args_set_iter (a : Value) : argsOk "set.__iter__" ⟨[a], []⟩ := by unfold argsOk; kernel_rfl
theorem args_seti_next (a : Value) : argsOk "set_iterator.__next__" ⟨[a], []⟩ := by unfold argsOk; kernel_rfl
section
variable {prog : Program} {w : World} {A : Around} {E : Value → Shared → Prop} {s : Shared}
noncomputable def byText (w : World) : Bool := w.params.followText "set-order"
noncomputable def setIt (D : Addr) (sl i n ep : Nat) : Obj := { cls := .type "set_iterator", dict := none, data := .fields #[rawInt sl, rawInt i, .ref D, rawInt n, rawInt ep] }
theorem pyIter_set {D : Addr} {f t : Bool} {ep : Nat} {Q : Value → Shared → Prop} (ho : s.heap.get? D = some (setO (!byText w) f t ep))
    (h : Q (.ref s.heap.objs.size) { s with heap := s.heap.push (setIt D 0 0 (esB f t).size ep) }) : wpAny (model prog w) A (pyIter (.ref D)) Q E s := by
  have hT := typeIs_set ho
  have hf := fits_setO (!byText w) f t
  refine wpAny_pyIter_slot hT slot_set_iter (wpAny_call_entry slot_set_iter hT entry_set_iter ?_ (args_set_iter _))
  unfold Builtin.«frozenset.__iter__» Builtin.Frozenset.slot0
  show wpAny _ _ (Builtin.Frozenset.addrOf (.ref D) >>= _) _ _ s
  unfold Builtin.Frozenset.addrOf
  refine wpAny_bind (wpAny_pure ?_)
  unfold Builtin.Frozenset.sizeOf
  refine wpAny_bind (wpAny_bind (wpAny_setEntries_of ho rfl hf (wpAny_pure ?_)))
  unfold setDrawn setsByText
  refine wpAny_bind (wpAny_bind (wpAny_setState_of ho rfl hf ?_))
  refine wpAny_bind (wpAny_bind (wpAny_askSetting (wpAny_pure ?_)))
  refine wpAny_pure ?_
  dsimp only
  have hpl : (tbB (!byText w) f t).plain = true := rfl
  rw [if_neg (by show ¬ ((!byText w && (!(tbB (!byText w) f t).plain && _)) = true); rw [hpl]; simp)]
  refine wpAny_bind (wpAny_pure ?_)
  unfold setEpoch
  refine wpAny_bind (wpAny_bind (wpAny_setState_of ho rfl hf (wpAny_pure ?_)))
  unfold newFields
  refine wpAny_bind (wpAny_newObj_type ?_ (by size_fits))
  exact wpAny_pure ⟨_, rfl, "set_iterator", _, ⟨_, Heap.get?_push_size _ rfl, rfl⟩, slot_seti_next.lookup, h⟩
noncomputable def nextB (w : World) (D : Addr) (f t : Bool) (ep sl gv : Nat) : Option (Value × Nat) :=
  if byText w then ((pickOrder (w.params.setOrder D ep) (esB f t))[gv]?).map fun e => (e.2, sl)
  else match (esB f t)[SetTable.below (tbB true f t).place sl]?, (tbB true f t).place[SetTable.below (tbB true f t).place sl]? with
    | some (_, x), some j => some (x, j + 1)
    | _, _ => none
theorem setNext_is {D : Addr} {f t : Bool} {ep sl gv : Nat} {Q : Option (Value × Nat) → Shared → Prop} (ho : s.heap.get? D = some (setO (!byText w) f t ep))
    (h : Q (nextB w D f t ep sl gv) s) : wpAny (model prog w) A (setNext D sl gv ep) Q E s := by
  have hf := fits_setO (!byText w) f t
  unfold setNext
  refine wpAny_bind (wpAny_setState_of ho rfl hf ?_)
  unfold setsByText
  refine wpAny_bind (wpAny_bind (wpAny_askSetting (wpAny_pure ?_)))
  dsimp only
  unfold nextB at h
  by_cases hb : byText w = true
  · have hb' : w.params.followText "set-order" = true := hb
    rw [if_pos hb] at h
    rw [if_pos (show (model prog w).w.params.followText "set-order" = true from hb'), if_neg (by simp)]
    unfold setWalk setsByText
    refine wpAny_bind (wpAny_bind (wpAny_setState_of ho rfl hf ?_))
    refine wpAny_bind (wpAny_bind (wpAny_askSetting (wpAny_pure ?_)))
    rw [if_pos (show (model prog w).w.params.followText "set-order" = true from hb')]
    refine wpAny_bind (wpAny_askSetting (wpAny_pure ?_))
    exact wpAny_pure h
  · have hb2 : byText w = false := by simpa using hb
    have hb' : w.params.followText "set-order" = false := hb2
    rw [if_neg hb] at h
    rw [if_neg (show ¬ (model prog w).w.params.followText "set-order" = true by rw [show (model prog w).w.params.followText "set-order" = false from hb']; simp)]
    have hpl : (tbB (!byText w) f t).plain = true := rfl
    have hld : (tbB (!byText w) f t).led = true := by show (!byText w) = true; rw [hb2]; rfl
    rw [if_neg (by show ¬ ((!(tbB (!byText w) f t).plain && _) = true); rw [hpl]; simp)]
    refine wpAny_bind ?_
    show wpAny _ _ (if (!(tbB (!byText w) f t).led && _) = true then _ else pure ()) _ _ s
    rw [if_neg (by rw [hld]; simp)]
    refine wpAny_pure (wpAny_pure ?_)
    exact h
theorem next_one (w : World) (D : Addr) (b : Bool) (ep : Nat) : ∃ nx, nextB w D (!b) b ep 0 0 = some (.bool b, nx) ∧ nextB w D (!b) b ep nx 1 = none := by
  unfold nextB
  by_cases hb : byText w = true
  · rw [if_pos hb]
    refine ⟨0, ?_, ?_⟩
    · have : pickOrder (w.params.setOrder D ep) (esB (!b) b) = esB (!b) b := by
        cases b <;> (unfold pickOrder esB; simp [pickOrder.go, Nat.mod_one])
      rw [this]
      cases b <;> rfl
    · rw [if_pos hb]
      have : pickOrder (w.params.setOrder D ep) (esB (!b) b) = esB (!b) b := by
        cases b <;> (unfold pickOrder esB; simp [pickOrder.go, Nat.mod_one])
      rw [this]
      cases b <;> rfl
  · rw [if_neg hb]
    cases b
    · exact ⟨1, rfl, by rw [if_neg hb]; rfl⟩
    · exact ⟨2, rfl, by rw [if_neg hb]; rfl⟩
theorem next_two (w : World) (D : Addr) (ep : Nat) : ∃ b nx x, nextB w D true true ep 0 0 = some (.bool b, nx) ∧ nextB w D true true ep nx 1 = some x := by
  unfold nextB
  by_cases hb : byText w = true
  · rw [if_pos hb]
    have : ∃ b c, pickOrder (w.params.setOrder D ep) (esB true true) = #[(hashB b, .bool b), (hashB c, .bool c)] := by
      unfold pickOrder esB
      have h2 : w.params.setOrder D ep 0 % 2 = 0 ∨ w.params.setOrder D ep 0 % 2 = 1 := by omega
      rcases h2 with h2 | h2
      · exact ⟨false, true, by simp [pickOrder.go, h2, hashB, Nat.mod_one]⟩
      · exact ⟨true, false, by simp [pickOrder.go, h2, hashB, Nat.mod_one]⟩
    obtain ⟨b, c, e⟩ := this
    rw [e]
    exact ⟨b, 0, _, rfl, by rw [if_pos hb]; rfl⟩
  · rw [if_neg hb]
    exact ⟨false, 1, _, rfl, by rw [if_neg hb]; rfl⟩
/-- the iterator hands on an item -/
theorem pyNext_set_item {D It : Addr} {f t : Bool} {ep sl gv nx : Nat} {v : Value} {Q : Option Value → Shared → Prop} (ho : s.heap.get? D = some (setO (!byText w) f t ep)) (hi : s.heap.get? It = some (setIt D sl gv (esB f t).size ep))
    (hx : nextB w D f t ep sl gv = some (v, nx)) (h : ∀ h', Heap.SameBut It s.heap h' → h'.get? It = some (setIt D nx (gv + 1) (esB f t).size ep) → Q (some v) { s with heap := h' }) : wpAny (model prog w) A (pyNext (.ref It)) Q E s := by
  have hT : s.TypeIs (.ref It) "set_iterator" := ⟨_, hi, rfl⟩
  have hf := fits_setO (!byText w) f t
  unfold pyNext
  refine wpAny_bind (wpAny_attempt (wpAny_callSpecial?_slot (name := Str.ofString "__next__") hT slot_seti_next (wpAny_call_entry slot_seti_next hT entry_seti_next ?_ (args_seti_next _))))
  show wpAny _ _ (fieldsOf (.ref It) >>= _) _ _ s
  refine wpAny_bind (wpAny_fieldsOf hi rfl ?_)
  show wpAny _ _ (setEntries D >>= _) _ _ s
  refine wpAny_bind (wpAny_setEntries_of ho rfl hf ?_)
  rw [if_neg (by simp)]
  show wpAny _ _ (setNext D (Int.toNat sl) (Int.toNat gv) (Int.toNat ep) >>= _) _ _ s
  simp only [Int.toNat_natCast]
  refine wpAny_bind (setNext_is ho ?_)
  rw [hx]
  dsimp only
  refine wpAny_bind (wpAny_setField hi rfl (by simp) ?_)
  have h1 := update_eq (Obj.mapFields (·.setIfInBounds 0 (rawInt (nx : Int)))) hi (o' := { cls := .type "set_iterator", dict := none, data := .fields #[rawInt nx, rawInt gv, .ref D, rawInt (esB f t).size, rawInt ep] }) rfl rfl
  refine wpAny_bind (wpAny_setField h1 rfl (by simp) ?_)
  have h2 := update_eq (Obj.mapFields (·.setIfInBounds 1 (rawInt ((gv : Int) + 1)))) h1 (o' := setIt D nx (gv + 1) (esB f t).size ep) rfl rfl
  exact wpAny_pure ⟨_, rfl, wpAny_pure (h _ ((Heap.SameBut.update ..).trans (Heap.SameBut.update ..)) h2)⟩
/-- the iterator is at its end -/
theorem pyNext_set_end {D It : Addr} {f t : Bool} {ep sl gv : Nat} {Q : Option Value → Shared → Prop} (hh : A.handled = none) (ho : s.heap.get? D = some (setO (!byText w) f t ep)) (hi : s.heap.get? It = some (setIt D sl gv (esB f t).size ep))
    (hx : nextB w D f t ep sl gv = none) (h : ∀ h', Heap.ExtBut It s.heap h' → Q none { s with heap := h' }) : wpAny (model prog w) A (pyNext (.ref It)) Q E s := by
  have hT : s.TypeIs (.ref It) "set_iterator" := ⟨_, hi, rfl⟩
  have hf := fits_setO (!byText w) f t
  unfold pyNext
  refine wpAny_bind (wpAny_attempt (wpAny_callSpecial?_slot (name := Str.ofString "__next__") hT slot_seti_next (wpAny_call_entry slot_seti_next hT entry_seti_next ?_ (args_seti_next _))))
  show wpAny _ _ (fieldsOf (.ref It) >>= _) _ _ s
  refine wpAny_bind (wpAny_fieldsOf hi rfl ?_)
  show wpAny _ _ (setEntries D >>= _) _ _ s
  refine wpAny_bind (wpAny_setEntries_of ho rfl hf ?_)
  rw [if_neg (by simp)]
  show wpAny _ _ (setNext D (Int.toNat sl) (Int.toNat gv) (Int.toNat ep) >>= _) _ _ s
  simp only [Int.toNat_natCast]
  refine wpAny_bind (setNext_is ho ?_)
  rw [hx]
  dsimp only
  refine wpAny_bind (wpAny_setField hi rfl (by simp) ?_)
  show wpAny _ _ (newExc (.type "StopIteration") [] >>= _) _ _ _
  refine wpAny_bind ?_
  simp only [newExc, newTuple]
  refine wpAny_bind (wpAny_newObj_type ?_ (by size_fits))
  refine wpAny_bind (m := firstArgMember _ _) (wpAny_of_eq (a := Value.none) (by first | rfl | (simp only [firstArgMember]; rfl)) ?_)
  refine wpAny_newObj_type ?_ (by size_fits)
  simp only [raiseNew]
  refine wpAny_bind (wpAny_handled ?_)
  first | rw [show A.in1.handled = none from hh] | rw [hh]
  refine wpAny_bind (wpAny_pure (wpAny_throw ?_))
  refine wpAny_bind (wpAny_isInstance (T := "StopIteration") (b := true) ⟨_, Heap.get?_push_size _ rfl, rfl⟩ isSubtype_stop ?_)
  simp only [if_true]
  exact wpAny_pure (h _ (((Heap.SameBut.update ..).extBut.push _).push _))
end
end Mine
end
section
open PySem PySem.W PyProof.Rows PySem.Calls PySem.SeqAt
set_option Elab.async false
set_option linter.unusedVariables false
set_option maxRecDepth 100000
namespace Mine

/-- the names that a comprehension takes from its function -/
noncomputable def capt (scope sc : Scope) (ρ : Loc) : Loc := ρ.filter fun p => (relab scope sc).names.lookup p.1 == some .cell
theorem lookup_filter {q : Str → Bool} {x : Str} : ∀ (ρ : Loc), (ρ.filter fun p => q p.1).lookup x = if q x then ρ.lookup x else none
  | [] => by simp
  | (y, v) :: r => by
    have ih := lookup_filter (q := q) (x := x) r
    rw [List.filter_cons]
    by_cases hxy : x = y
    · subst hxy
      by_cases hq : q x = true
      · simp [hq]
      · simp only [hq, if_false] at ih ⊢
        simpa using ih
    · have hb : (x == y) = false := by simpa using hxy
      split
      · rw [List.lookup_cons, List.lookup_cons, hb]; exact ih
      · rw [List.lookup_cons, hb]; exact ih
theorem capt_lookup {scope sc : Scope} {ρ : Loc} {x : Str} (h : (relab scope sc).names.lookup x = some .cell) : (capt scope sc ρ).lookup x = ρ.lookup x := by
  unfold capt
  rw [lookup_filter (q := fun x => (relab scope sc).names.lookup x == some .cell)]
  simp [h]

theorem lookup_relab {f : Str × NameKind → Bool} {x : Str} : ∀ {l : List (Str × NameKind)}, (∀ y ∈ l, y.2 ≠ .cell) → (l.map fun (n, k) => if (k == .free && f (n, k)) then (n, NameKind.cell) else (n, k)).lookup x = some .cell → (x, NameKind.free) ∈ l ∧ f (x, .free) = true
  | [], _, h => by simp at h
  | (n, k) :: r, hc, h => by
    simp only [List.map_cons] at h
    by_cases hx : x = n
    · subst hx
      by_cases hk : (k == NameKind.free && f (x, k)) = true
      · obtain ⟨a, b⟩ := Bool.and_eq_true_iff.mp hk
        have : k = .free := by simpa using a
        subst this
        exact ⟨List.mem_cons_self, b⟩
      · rw [if_neg hk] at h
        simp at h
        exact absurd h (hc _ List.mem_cons_self)
    · have hb : (x == n) = false := by simpa using hx
      have h' : (r.map fun (n, k) => if (k == .free && f (n, k)) then (n, NameKind.cell) else (n, k)).lookup x = some .cell := by
        by_cases hk : (k == NameKind.free && f (n, k)) = true
        · rw [if_pos hk, List.lookup_cons, hb] at h; exact h
        · rw [if_neg hk, List.lookup_cons, hb] at h; exact h
      obtain ⟨a, b⟩ := lookup_relab (fun y hy => hc y (List.mem_cons_of_mem _ hy)) h'
      exact ⟨List.mem_cons_of_mem _ a, b⟩

noncomputable def Tst (g : Glo) (sc : Scope) (n : Nat) (ifs : List Expr) (ρ : Loc) (σ : List MO) (b : Bool) : Prop :=
  Run g sc n (fun env => forIn ifs true fun c r => if r = true then do let ok ← isTrue c env (eval c env); pure (ForInStep.yield ok) else pure (ForInStep.yield r)) ρ σ (fun _ _ r => r = b) σ

section
variable {g : Glo} {R : RS} {P P' : PS} {δ δ' : List Addr} {env cenv : Env} {ρ ρ' ρc ρ₁ ρ₂ : Loc} {σ σ' σ₁ σ₂ σ₃ : List MO} {h h' : Heap} {sc : Scope} {n : Nat} {Φ : Out → Prop} {rest : List Stmt}

theorem tst_nil : Tst g sc n [] ρ σ true := .mk fun env A R P δ s Q O hA I h => by
  show wpAny _ A (forIn [] true _) Q NoE s
  rw [List.forIn_nil]
  exact wpAny_pure (stay s.toks I h rfl)
theorem tst_one {c : Expr} {b : Bool} (h1 : EvB g sc n c ρ σ b σ) : Tst g sc n [c] ρ σ b := .mk fun env A R P δ s Q O hA I h => by
  show wpAny _ A (forIn [c] true _) Q NoE s
  rw [List.forIn_cons]
  simp only [if_true]
  refine wpAny_bind (wpAny_bind (h1.run env A R P δ s _ O hA I fun r P₁ δ₁ hh₁ tk₁ le₁ pr₁ I₁ e => wpAny_pure ?_))
  simp only [List.forIn_nil]
  exact wpAny_pure (h r P₁ δ₁ hh₁ tk₁ le₁ pr₁ I₁ e)

/-- the two kinds of comprehensions -/
inductive CK where
  | l | s
noncomputable def CK.ex (k : CK) (elt target iter : Expr) (ifs : List Expr) (scope : Scope) (pos : Pos) : Expr := match k with
  | .l => .ListComp elt [⟨target, iter, ifs, 0⟩] scope pos
  | .s => .SetComp elt [⟨target, iter, ifs, 0⟩] scope pos
noncomputable def CK.put : CK → String
  | .l => "list.append"
  | .s => "set.add"
noncomputable def CK.mk : CK → Sem Value
  | .l => newList []
  | .s => newSet (.type "set")
/-- what a comprehension's object holds -/
noncomputable def CK.has (k : CK) (w : World) (h : Heap) (D : Addr) (ys : List Value) : Prop := match k with
  | .l => h.PlainList D ys.toArray
  | .s => ∃ (bs : List Bool) (ep : Nat), ys = bs.map Value.bool ∧ h.get? D = some (setO (!byText w) (bs.contains false) (bs.contains true) ep)
/-- what may go into it -/
noncomputable def CK.may (k : CK) (x : V) : Prop := match k with
  | .l => True
  | .s => ∃ b, x = .bool b
theorem compTurn_set (elt target iter : Expr) (ifs : List Expr) (scope : Scope) (pos : Pos) (it acc : Value) (env : Env) :
    compTurn (.SetComp elt [⟨target, iter, ifs, 0⟩] scope pos) 0 it acc env = (do
      standAt iter.pos
      match ← pyNext it with
      | none => pure (.done .next)
      | some v =>
        letOwnedTupleGo target it v
        assign target env v
        let mut ok := true
        for c in ifs do
          if ok then ok ← isTrue c env (eval c env)
        if ok then
          (do let v ← eval elt env; standAt elt.pos; let _ ← call (.builtin "set.add") [acc, v])
        again (.compLoop (.SetComp elt [⟨target, iter, ifs, 0⟩] scope pos) 0 it acc env)) := by rfl
theorem codeAny_compLoop_any (ck : CK) {prog : Program} {w : World} {A : Around} {R : Result → Shared → Prop} {s : Shared} {elt target iter : Expr} {ifs : List Expr} {scope : Scope} {pos : Pos} {it acc : Value} {env : Env} (I : Nat → Shared → Prop)
    (turn : ∀ n s, I n s → wpAny (model prog w) A (pyNext it) (fun r s₁ => match r with
      | none => R (.ok .next) s₁
      | some v => wpAny (model prog w) A (letOwnedTupleGo target it v) (fun _ s₁' => wpAny (model prog w) A (assign target env v) (fun _ s₂ =>
          wpAny (model prog w) A (forIn ifs true fun c r => if r = true then do let ok ← isTrue c env (eval c env); pure (ForInStep.yield ok) else pure (ForInStep.yield r)) (fun ok s₃ =>
            if ok = true then wpAny (model prog w) A (eval elt env) (fun x s₄ =>
              wpAny (model prog w) A (call (.builtin ck.put) [acc, x]) (fun _ s₅ => ∃ m, m < n ∧ I m s₅) NoE s₄) NoE s₃
            else ∃ m, m < n ∧ I m s₃) NoE s₂) NoE s₁') NoE s₁) NoE s)
    (n : Nat) (h : I n s) : codeAny (model prog w) A (.compLoop (ck.ex elt target iter ifs scope pos) 0 it acc env) R s := by
  have no : ∀ {X : Value → Shared → Prop}, ∀ e s', NoE e s' → X e s' := fun _ _ x => x.elim
  cases ck with
  | l =>
    refine codeAny_loop rfl I (fun n s hI => ?_) n h
    show wpAny _ A ((compTurn (.ListComp elt [⟨target, iter, ifs, 0⟩] scope pos) 0 it acc env).onRaise (fun x => do noteFrame x env; theTreesLotGoes x)) _ _ s
    refine wpAny_noted ?_
    rw [compTurn_list]
    refine wpAny_bind (wpAny_standAt (wpAny_bind (wpAny_mono (turn n s hI) (fun r s₁ h₁ => ?_) no)))
    cases r with
    | none => exact wpAny_pure h₁
    | some v =>
      refine wpAny_bind (wpAny_mono h₁ (fun _ s₁' h₁ => ?_) no)
      refine wpAny_bind (wpAny_mono h₁ (fun _ s₂ h₂ => wpAny_bind (wpAny_mono h₂ (fun ok s₃ h₃ => ?_) no)) no)
      cases ok with
      | false => exact wpAny_pure ⟨rfl, h₃⟩
      | true =>
        exact wpAny_bind (wpAny_bind (wpAny_mono h₃ (fun x s₄ h₄ => wpAny_bind (wpAny_mono h₄ (fun _ s₅ h₅ => wpAny_pure (wpAny_pure ⟨rfl, h₅⟩)) no)) no))
  | s =>
    refine codeAny_loop rfl I (fun n s hI => ?_) n h
    show wpAny _ A ((compTurn (.SetComp elt [⟨target, iter, ifs, 0⟩] scope pos) 0 it acc env).onRaise (fun x => do noteFrame x env; theTreesLotGoes x)) _ _ s
    refine wpAny_noted ?_
    rw [compTurn_set]
    refine wpAny_bind (wpAny_standAt (wpAny_bind (wpAny_mono (turn n s hI) (fun r s₁ h₁ => ?_) no)))
    cases r with
    | none => exact wpAny_pure h₁
    | some v =>
      refine wpAny_bind (wpAny_mono h₁ (fun _ s₁' h₁ => ?_) no)
      refine wpAny_bind (wpAny_mono h₁ (fun _ s₂ h₂ => wpAny_bind (wpAny_mono h₂ (fun ok s₃ h₃ => ?_) no)) no)
      cases ok with
      | false => exact wpAny_pure ⟨rfl, h₃⟩
      | true =>
        exact wpAny_bind (wpAny_bind (wpAny_mono h₃ (fun x s₄ h₄ => wpAny_bind (wpAny_standAt (wpAny_bind (wpAny_mono h₄ (fun _ s₅ h₅ => wpAny_pure (wpAny_pure ⟨rfl, h₅⟩)) no)))) no))
theorem codeAny_compStart_ck (ck : CK) {prog : Program} {w : World} {A : Around} {R : Result → Shared → Prop} {s : Shared} {elt target iter : Expr} {ifs : List Expr} {scope : Scope} {pos : Pos} {it acc : Value} {env : Env}
    (h0 : codeAny (model prog w) A (.compLoop (ck.ex elt target iter ifs scope pos) 0 it acc env) R s)
    (h : wpAny (model prog w) A (pyIter it) (fun it' s' => codeAny (model prog w) A (.compLoop (ck.ex elt target iter ifs scope pos) 0 it' acc env) R s') (notedBy (model prog w) A env fun x s' => R (.error x) s') s) :
    codeAny (model prog w) A (.compStart (ck.ex elt target iter ifs scope pos) 0 it acc env) R s := by
  cases ck with
  | l => exact codeAny_compStart_list h0 h
  | s =>
    refine codeAny_of_tree ?_
    show wpAny _ _ ((compStart (.SetComp elt [⟨target, iter, ifs, 0⟩] scope pos) 0 it acc env).onRaise (fun x => do noteFrame x env; standAt theWindowsPlace)) _ _ s
    refine wpAny_notedAt ?_
    unfold compStart
    show wpAny _ _ (ask >>= _) _ _ s
    refine wpAny_bind (wpAny_askSetting (wpAny_ite ?_))
    split
    · first
        | exact wpAny_bind (wpAny_pure (wpAny_pure (And.intro rfl h0)))
        | exact wpAny_pure (And.intro rfl h0)
    · first
        | exact wpAny_bind (wpAny_rule (wpAny_bind (wpAny_standAt (wpAny_bind (wpAny_mono h (fun it' s' h' => wpAny_pure (And.intro rfl h')) fun _ _ x => x)))))
        | (refine wpAny_bind (wpAny_rule ?_); show wpAny _ _ (standAt iter.pos >>= _) _ _ s; exact wpAny_bind (wpAny_standAt (wpAny_bind (wpAny_mono h (fun it' s' h' => wpAny_pure (And.intro rfl h')) fun _ _ x => x))))

theorem CK.has_obj (ck : CK) {w : World} {h : Heap} {D : Addr} {ys : List Value} (x : ck.has w h D ys) : ∃ o, h.get? D = some o ∧ (∀ v, o.data ≠ .cell v) ∧ ∀ h' : Heap, h'.get? D = some o → ck.has w h' D ys := by
  cases ck with
  | l => obtain ⟨k, hk⟩ := x; exact ⟨_, hk, (fun v c => by cases c), fun h' e => ⟨k, e⟩⟩
  | s => obtain ⟨bs, ep, e1, hk⟩ := x; exact ⟨_, hk, (fun v c => by cases c), fun h' e => ⟨bs, ep, e1, e⟩⟩
theorem CK.add (ck : CK) {prog : Program} {w : World} {mg : Str → Option Value} {A : Around} {s : Shared} {D : Addr} {ys : List Value} {v : Value} {x : V} {Q : Value → Shared → Prop} (h : ck.has w s.heap D ys) (hv : Mine.Sees prog w mg P δ v x) (hx : ck.may x) (hz : ys.length ≤ 16777215)
    (hq : ∀ h' tk' r, Heap.SameBut D s.heap h' → ck.has w h' D (ys ++ [v]) → Q r { s with heap := h', toks := tk' }) : wpAny (model prog w) A (call (.builtin ck.put) [.ref D, v]) Q NoE s := by
  cases ck with
  | l =>
    obtain ⟨k, hk⟩ := h
    exact wpAny_list_append_plain ⟨k, hk⟩ (fun h₅ hp₅ hs₅ => hq h₅ s.toks _ hs₅ (by simpa [CK.has] using hp₅)) (by rw [sizeLine_eq]; simp; omega)
  | s =>
    obtain ⟨bs, ep, e1, hk⟩ := h
    obtain ⟨b, rfl⟩ := hx
    obtain rfl := hv.tells
    subst e1
    refine call_add_bool hk fun h' ep' hs he => hq h' _ _ hs ⟨bs ++ [b], ep', by simp, ?_⟩
    rw [he]
    congr 2 <;> (cases b <;> simp)
theorem Wkr.with {A : Around} {I : Addr} {wr : List Addr} {xs : List V} {tgt : Expr} {St : Nat → Heap → Prop} (W : Wkr g A P δ I wr xs tgt St) {D : Addr} {oD : Obj} (hD : D ∉ wr) (hc : ∀ v, oD.data ≠ .cell v) : Wkr g A P δ I (D :: wr) xs tgt (fun i h => St i h ∧ h.get? D = some oD) where
  live := fun i h st b hb => by
    rcases List.mem_cons.mp hb with rfl | hb
    · exact ⟨oD, st.2, hc⟩
    · exact W.live i h st.1 b hb
  frame := fun i h h' st hw hp hp' => ⟨W.frame i h h' st.1 (fun b hb => hw b (List.mem_cons_of_mem _ hb)) hp hp', hw D List.mem_cons_self _ st.2⟩
  item := fun i y s Q hy st hp hQ => W.item i y s Q hy st.1 hp fun v h' tk st' hv hk => hQ v h' tk ⟨st', hk D oD hD st.2⟩ hv fun b o hb e => hk b o (fun z => hb (List.mem_cons_of_mem _ z)) e
  self := fun i s Q st hQ => W.self i s Q st.1 hQ
  done := fun s Q st hp hQ => W.done s Q st.1 hp fun h' tk hk => hQ h' tk fun b o hb e => hk b o (fun z => hb (List.mem_cons_of_mem _ z)) e

/-- what a comprehension has gathered after i turns -/
noncomputable def outs (tst : Nat → Bool) (val : Nat → V) (i : Nat) : List V := ((List.range i).filter tst).map val
theorem outs_succ (tst : Nat → Bool) (val : Nat → V) (i : Nat) : outs tst val (i + 1) = if tst i then outs tst val i ++ [val i] else outs tst val i := by
  unfold outs
  rw [List.range_succ, List.filter_append, List.map_append]
  by_cases h : tst i = true
  · simp [h]
  · simp [h]
theorem outs_length (tst : Nat → Bool) (val : Nat → V) (i : Nat) : (outs tst val i).length ≤ i := by
  unfold outs
  rw [List.length_map]
  exact Nat.le_trans (List.length_filter_le _ _) (by simp)

/-- the state of a comprehension -/
noncomputable def LcI (ck : CK) (g : Glo) (R : RS) (cenv : Env) (D : Addr) (wr : List Addr) (St : Nat → Heap → Prop) (ρc : Loc) (σ : List MO) (tst : Nat → Bool) (val : Nat → V) (P₁ : PS) (δ₁ : List Addr) (N : Nat) (s : Shared) (m : Nat) (s' : Shared) : Prop :=
  ∃ P' δ' h' tk' i ys, s' = { s with heap := h', toks := tk' } ∧ (∀ b o, P₁ b o → P' b o) ∧ δ₁ <+: δ' ∧ Inv g R P' δ' cenv ρc σ h' ∧ (∀ b ∈ D :: wr, Free R P' δ' cenv b) ∧ St i h' ∧
    ck.has g.w h' D (ys : List Value) ∧ g.SeesL P' δ' ys (outs tst val i) ∧ i ≤ N ∧ m = N - i

theorem lc_loop (ck : CK) {A : Around} {P₁ : PS} {δ₁ : List Addr} {s : Shared} {It D : Addr} {wr : List Addr} {xs : List V} {tgt elt iter : Expr} {ifs : List Expr} {scope : Scope} {pos : Pos} {St : Nat → Heap → Prop} {Rr : Result → Shared → Prop} {sc' : Scope} (tst : Nat → Bool) (val : Nat → V)
    (O : EnvOk cenv sc') (hA : AOk A n R cenv) (W : Wkr g A P₁ δ₁ It wr xs tgt St) (hD : D ∉ wr) (hz : xs.length ≤ 16777215)
    (hturn : ∀ i y, xs[i]? = some y → ∃ ρ', Asg g sc' n tgt y ρc ρ' ∧ Sub ρc ρ' ∧ Tst g sc' n ifs ρ' σ (tst i) ∧ (tst i = true → Ev g sc' n elt ρ' σ (val i) σ ∧ ck.may (val i)))
    (hI : LcI ck g R cenv D wr St ρc σ tst val P₁ δ₁ xs.length s xs.length s)
    (hend : ∀ P' δ' h' tk' ys, (∀ b o, P₁ b o → P' b o) → δ₁ <+: δ' → Inv g R P' δ' cenv ρc σ h' → (∀ b ∈ D :: wr, Free R P' δ' cenv b) → ck.has g.w h' D (ys : List Value) → g.SeesL P' δ' ys (outs tst val xs.length) → Rr (.ok .next) { s with heap := h', toks := tk' }) :
    codeAny (model g.prog g.w) A (.compLoop (ck.ex elt tgt iter ifs scope pos) 0 (.ref It) (.ref D) cenv) Rr s := by
  refine codeAny_compLoop_any ck (LcI ck g R cenv D wr St ρc σ tst val P₁ δ₁ xs.length s) ?_ xs.length hI
  rintro m s' ⟨P', δ', h', tk', i, ys, rfl, le, pr, I', hf, st, hpl, hys, hi, rfl⟩
  obtain ⟨oD, hoD, hcD, hbD⟩ := ck.has_obj hpl
  by_cases hlt : i < xs.length
  · obtain ⟨ρ', ha, hsub, htst, helt⟩ := hturn i xs[i] (List.getElem?_eq_getElem hlt)
    have W' := W.with (D := D) (oD := oD) hD hcD
    refine wpAny_mono (W'.turn O hA (i := i) (s := { s with heap := h', toks := tk' }) (List.getElem?_eq_getElem hlt) I' le pr hf ⟨st, hoD⟩ ha
      (Q := fun s₂ => wpAny (model g.prog g.w) A (forIn ifs true fun c r => if r = true then do let ok ← isTrue c cenv (eval c cenv); pure (ForInStep.yield ok) else pure (ForInStep.yield r)) (fun ok s₃ =>
            if ok = true then wpAny (model g.prog g.w) A (eval elt cenv) (fun x s₄ =>
              wpAny (model g.prog g.w) A (call (.builtin ck.put) [.ref D, x]) (fun _ s₅ => ∃ m, m < xs.length - i ∧ LcI ck g R cenv D wr St ρc σ tst val P₁ δ₁ xs.length s m s₅) NoE s₄) NoE s₃
            else ∃ m, m < xs.length - i ∧ LcI ck g R cenv D wr St ρc σ tst val P₁ δ₁ xs.length s m s₃) NoE s₂) fun P₂ δ₂ h₂ tk₂ le₂ pr₂ I₂ hf₂ st₂ => ?_) (fun r s₁ hr => ?_) fun _ _ e => e
    · have hc : ∀ b ∈ D :: wr, ∀ o, h₂.get? b = some o → ∀ v, o.data ≠ .cell v := fun b hm o e => let ⟨o', ho', hc⟩ := W'.live _ _ st₂ b hm; by rw [ho'] at e; cases e; exact hc
      have lv : ∀ b ∈ D :: wr, ∃ o, h₂.get? b = some o := fun b hm => let ⟨o, ho, _⟩ := W'.live _ _ st₂ b hm; ⟨o, ho⟩
      refine htst.run cenv A (held R (D :: wr) h₂) P₂ δ₂ _ _ O hA.held I₂ fun ok P₃ δ₃ h₃ tk₃ le₃ pr₃ I₃ e => ?_
      subst e
      -- what is there after the tests, or after the value
      have fin : ∀ P₄ δ₄ h₄, (∀ b o, P₂ b o → P₄ b o) → δ₂ <+: δ₄ → Inv g (held R (D :: wr) h₂) P₄ δ₄ cenv ρ' σ h₄ → Inv g R P₄ δ₄ cenv ρc σ h₄ ∧ (∀ b ∈ D :: wr, Free R P₄ δ₄ cenv b) ∧ St (i + 1) h₄ ∧ h₄.get? D = some oD := by
        intro P₄ δ₄ h₄ le₄ pr₄ I₄
        have hs₄ := W'.frame _ _ h₄ st₂ (fun b hm o e => I₄.keepR b o (.inr ⟨hm, e⟩)) (fun c o p => I₂.keepP c o (le₂ c o (le c o p))) fun b o p => I₄.keepP b o (le₄ b o (le₂ b o (le b o p)))
        exact ⟨(I₄.unhold I'.base hc).forget hsub, I₄.still I'.base hf₂ lv, hs₄.1, hs₄.2⟩
      have leP : ∀ b o, P₁ b o → P₂ b o := fun b o z => le₂ b o (le b o z)
      have hlen := hys.length
      have hol := outs_length tst val i
      by_cases hti : tst i = true
      · rw [if_pos hti]
        refine (helt hti).1.run cenv A (held R (D :: wr) h₂) P₃ δ₃ _ _ O hA.held I₃ fun x P₄ δ₄ h₄ tk₄ le₄ pr₄ I₄ s₄ => ?_
        obtain ⟨J, hf₄, st₄, hD₄⟩ := fin P₄ δ₄ h₄ (fun b o z => le₄ b o (le₃ b o z)) (pr₃.trans pr₄) I₄
        refine ck.add (s := { s with heap := h₄, toks := tk₄ }) (hbD h₄ hD₄) s₄ (helt hti).2 (by omega) fun h₅ tk₅ r hs₅ hp₅ => ?_
        have hDf := hf₄ D List.mem_cons_self
        refine ⟨xs.length - (i + 1), by omega, P₄, δ₄, h₅, tk₅, i + 1, ys ++ [x], rfl, fun b o z => le₄ b o (le₃ b o (leP b o z)), ((pr.trans pr₂).trans pr₃).trans pr₄, J.sameBut hDf hs₅, hf₄, ?_, hp₅, ?_, by omega, rfl⟩
        · refine W.frame _ _ h₅ st₄ (fun b hm o e => (hs₅.2 b (fun q => hD (q ▸ hm))).trans e) (fun b o p => J.keepP b o (le₄ b o (le₃ b o (leP b o p)))) fun b o p => (hs₅.2 b ?_).trans (J.keepP b o (le₄ b o (le₃ b o (leP b o p))))
          rintro rfl
          exact hDf.p _ (le₄ _ o (le₃ _ o (leP _ o p)))
        · rw [outs_succ, if_pos hti]
          exact ((((hys.mono le₂ pr₂).mono le₃ pr₃).mono le₄ pr₄).append (.cons s₄ .nil))
      · rw [if_neg hti]
        obtain ⟨J, hf₄, st₄, hD₄⟩ := fin P₃ δ₃ h₃ le₃ pr₃ I₃
        refine ⟨xs.length - (i + 1), by omega, P₃, δ₃, h₃, tk₃, i + 1, ys, rfl, fun b o z => le₃ b o (leP b o z), (pr.trans pr₂).trans pr₃, J, hf₄, st₄, hbD h₃ hD₄, ?_, by omega, rfl⟩
        rw [outs_succ, if_neg hti]
        exact (hys.mono le₂ pr₂).mono le₃ pr₃
    · cases r with
      | none => exact hr.elim
      | some v => exact hr
  · have hn : i = xs.length := by omega
    subst hn
    refine wpAny_mono (W.done { s with heap := h', toks := tk' } (fun r s₁ => r = none ∧ Rr (.ok .next) s₁) st (fun b o p => I'.keepP b o (le b o p)) fun h₂ tk₂ hk => ⟨rfl, ?_⟩) (fun r s₁ hr => ?_) fun _ _ e => e
    · have I₂ : Inv g R P' δ' cenv ρc σ h₂ := I'.keeps fun b o k e => hk b o (fun hm => by
        have f := hf b (List.mem_cons_of_mem _ hm)
        rcases k with ⟨q, k⟩ | ⟨q, k⟩ | k | k
        · exact f.r _ k
        · exact f.p _ k
        · exact f.d k
        · exact f.s k) e
      exact hend P' δ' h₂ tk₂ ys le pr I₂ hf (hbD h₂ (hk D _ hD hoD)) hys
    · obtain ⟨rfl, hr⟩ := hr
      exact hr
end
end Mine
end
section
open PySem PySem.W PyProof.Rows PySem.Calls PySem.SeqAt
set_option Elab.async false
set_option linter.unusedVariables false
set_option maxRecDepth 100000
namespace Mine

/-- a scope of a comprehension as the model's reader makes them -/
noncomputable def lcScope (scope : Scope) : Bool :=
  scope.names.all (fun x => !(x.2 == .cell)) && scope.kind == .function && scope.names.all (fun x => !(x.2 == .local) || scope.names.lookup x.1 == some .local)
/-- what the scope lends is the function's -/
noncomputable def lcLends (scope sc : Scope) : Bool := sc.kind == .function && scope.names.all (fun x => !(x.2 == .free) || sc.names.lookup x.1 == some .cell)

section
variable {g : Glo} {R : RS} {P P' : PS} {δ δ' : List Addr} {env cenv : Env} {ρ ρ' ρc ρ₁ ρ₂ : Loc} {σ σ' σ₁ σ₂ σ₃ : List MO} {h h' : Heap} {sc : Scope} {n : Nat} {Φ : Out → Prop} {rest : List Stmt}

theorem relab_cell {scope : Scope} {x : Str} (hc : lcScope scope = true) (h : (relab scope sc).names.lookup x = some .cell) : (x, NameKind.free) ∈ scope.names ∧ sc.names.lookup x = some .cell := by
  unfold lcScope at hc
  simp only [Bool.and_eq_true] at hc
  obtain ⟨⟨h1, h2⟩, h3⟩ := hc
  have := lookup_relab (f := fun p => sc.kind == .function && sc.names.lookup p.1 == some .cell) (x := x) (l := scope.names) (fun y hy => by simpa using List.all_eq_true.mp h1 y hy) (by
    unfold relab at h
    simp only [Bool.and_assoc] at h
    exact h)
  refine ⟨this.1, ?_⟩
  have := this.2
  rw [Bool.and_eq_true] at this
  simpa using this.2

theorem shares_of {scope : Scope} {cl : List (Str × Addr)} {C : Addr} (O : EnvOk env sc) (hc : lcScope scope = true) (h1 : ∀ n a, cl.lookup n = some a → env.cells.lookup n = some a) (h2 : ∀ x ∈ scope.names, x.2 = .free → ∃ a, cl.lookup x.1 = some a) :
    Shares env (compEnvC scope cl C env) C (capt scope sc ρ) ρ := by
  have hsc : (compEnvC scope cl C env).scope = relab scope sc := relabel_eq O.scope
  have kind : ∀ x, (compEnvC scope cl C env).kindOf x = (relab scope sc).names.lookup x := fun x => by show (compEnvC scope cl C env).scope.names.lookup x = _; rw [hsc]
  refine ⟨rfl, ?_, ?_, ?_, ?_⟩
  · intro x c hx e
    rw [kind] at hx
    refine ⟨?_, h1 x c e⟩
    show env.scope.names.lookup x = _
    rw [O.scope]; exact (relab_cell hc hx).2
  · intro x hx
    rw [kind] at hx
    exact h2 (x, .free) (relab_cell hc hx).1 rfl
  · intro x y e
    rw [kind]
    unfold capt at e
    rw [lookup_filter (q := fun x => (relab scope sc).names.lookup x == some .cell)] at e
    split at e
    · rename_i hq
      exact ⟨e, by simpa using hq⟩
    · cases e
  · intro x y hx e
    rw [kind] at hx
    rw [capt_lookup hx]; exact e

theorem CK.make (ck : CK) {prog : Program} {w : World} {A : Around} {E : Value → Shared → Prop} {s : Shared} {Q : Value → Shared → Prop}
    (h : ∀ o : Obj, o.isFreed = false → (∀ v, o.data ≠ .cell v) → (∀ (h' : Heap) D, h'.get? D = some o → ck.has w h' D []) → Q (.ref s.heap.objs.size) { s with heap := s.heap.push o }) : wpAny (model prog w) A ck.mk Q E s := by
  cases ck with
  | l => exact wpAny_newObj_type (h _ rfl (fun v c => by cases c) fun h' D e => ⟨0, e⟩)
  | s => exact newSet_bool (h _ rfl (fun v c => by cases c) fun h' D e => ⟨[], 0, rfl, e⟩)
/-- a comprehension's object, made; what is done with it, and then the comprehension's names go -/
theorem wp_lc (ck : CK) {tgt elt iter : Expr} {ifs : List Expr} {scope : Scope} {pos p' : Pos} {xs : List V} (tst : Nat → Bool) (val : Nat → V) (hc : lcScope scope = true) (hl : lcLends scope sc = true) (hsrc : Src g sc n iter ρ σ xs σ₁ tgt) (hz : xs.length ≤ 16777215)
    (hturn : ∀ i y, xs[i]? = some y → ∃ ρ', Asg g (relab scope sc) n tgt y (capt scope sc ρ) ρ' ∧ Sub (capt scope sc ρ) ρ' ∧ Tst g (relab scope sc) n ifs ρ' σ₁ (tst i) ∧ (tst i = true → Ev g (relab scope sc) n elt ρ' σ₁ (val i) σ₁ ∧ ck.may (val i)))
    {A : Around} {s : Shared} {use : Option (Value → Sem Unit)} {Q : Value → Shared → Prop} (O : EnvOk env sc) (hA : AOk A n R env) (I : Inv g R P δ env ρ σ s.heap) (hs : ∀ x, foldedSetIterable iter env x = pure x)
    (hp : ∀ P' δ' C D h' tk' ys, (∀ b o, P b o → P' b o) → δ <+: δ' → Inv g R P' δ' env ρ σ₁ h' → (∃ m, h'.Ns C m) → Free R P' δ' env C → Free R P' δ' env D → D ≠ C → ck.has g.w h' D ys → g.SeesL P' δ' ys (outs tst val xs.length) → C ≠ env.locals →
      compPost (model g.prog g.w) A NoE use Q (.ref D) C (.ok .next) { s with heap := h', toks := tk' }) :
    wpAny (model g.prog g.w) A (comprehension (ck.ex elt tgt iter ifs scope pos) scope env p' ck.mk false (eval iter env) use) Q NoE s := by
  have hcs := hc
  unfold lcScope at hcs
  simp only [Bool.and_eq_true] at hcs
  obtain ⟨⟨c1, c2⟩, c3⟩ := hcs
  unfold lcLends at hl
  rw [Bool.and_eq_true] at hl
  have hcell : ∀ y ∈ scope.names, y.2 ≠ .cell := fun y hy => by simpa using List.all_eq_true.mp c1 y hy
  have hkind : scope.kind = .function := by simpa using c2
  have hnames : ∀ y ∈ scope.names, y.2 = .local → scope.names.lookup y.1 = some .local := fun y hy e => by
    have := List.all_eq_true.mp c3 y hy
    simpa [e] using this
  have hfree : ∀ x ∈ scope.names, x.2 = .free → ∃ a, env.cells.lookup x.1 = some a := fun x hx e => by
    have := List.all_eq_true.mp hl.2 x hx
    have hk : env.kindOf x.1 = some .cell := by
      show env.scope.names.lookup x.1 = _
      rw [O.scope]; simpa [e] using this
    obtain ⟨c, _, h, _⟩ := I.cel x.1 hk
    exact ⟨c, h⟩
  obtain ⟨cl, hclos, hcl1, hcl2⟩ := closureFor_ok hfree
  refine wpAny_comprehension_free (g := ⟨tgt, iter, ifs, 0⟩) (gs := []) (by cases ck <;> rfl) hs hclos hkind hnames ?_
  refine hsrc.run env A R P δ s _ O hA I fun It wr St P₁ δ₁ h₁ tk₁ le₁ pr₁ I₁ hf₁ W st₁ => ?_
  have W := W A hA.handled
  -- the list
  refine ck.make fun oD hoF hoC hoH => (wpAny_newFunctionEnv hcell (by intro y hy; simp at hy) (fun h₃ hns₃ hsb₃ => ?_) hkind)
  dsimp only at hns₃ hsb₃ ⊢
  generalize hH2 : h₁.push oD = H2 at hns₃ hsb₃ ⊢
  have hsz2 : H2.objs.size = h₁.objs.size + 1 := by rw [← hH2, Heap.size_push]
  have k12 : ∀ b o, h₁.get? b = some o → H2.get? b = some o := fun b o e => hH2 ▸ Heap.get?_push_of_some _ e
  have hD2 : H2.get? h₁.objs.size = some oD := hH2 ▸ Heap.get?_push_size _ hoF
  have hC2 : H2.get? H2.objs.size = none := get_size_none H2
  have k23 : ∀ b o, H2.get? b = some o → h₃.get? b = some o := fun b o e => (hsb₃.2 b (Nat.ne_of_lt (Heap.lt_size e))).trans (Heap.get?_push_of_some _ e)
  have I₂ := I₁.grows k12
  have hsh := shares_of (ρ := ρ) (cl := cl) (C := H2.objs.size) O hc hcl1 hcl2
  have hns : h₃.Ns H2.objs.size (fun _ => none) := hns₃
  have J := I₂.inner hsh hC2 hns k23
  have hCf := I₂.free hC2
  have hDn : h₁.get? h₁.objs.size = none := get_size_none h₁
  have hDf := I₁.free hDn
  have hDwr : h₁.objs.size ∉ wr := fun hm => by
    obtain ⟨o, ho, _⟩ := W.live _ _ st₁ _ hm
    rw [hDn] at ho; cases ho
  have hCw : H2.objs.size ∉ h₁.objs.size :: wr := fun hm => by
    rcases List.mem_cons.mp hm with e | hm
    · rw [hsz2] at e; exact Nat.succ_ne_self _ e
    · obtain ⟨o, ho, _⟩ := W.live _ _ st₁ _ hm
      have := Heap.lt_size ho
      rw [hsz2] at this
      exact Nat.not_lt.mpr (Nat.le_succ _) this
  have inF : ∀ b ∈ h₁.objs.size :: wr, Free (within R env (compEnvC scope cl H2.objs.size env) H2) P₁ δ₁ (compEnvC scope cl H2.objs.size env) b := fun b hb => by
    have f : Free R P₁ δ₁ env b := by
      rcases List.mem_cons.mp hb with rfl | hb
      · exact hDf
      · exact hf₁ b hb
    refine ⟨fun o x => ?_, f.p, f.d, fun x => ?_⟩
    · rcases within_any x with x | ⟨x, _, _⟩
      · exact f.r o x
      · exact f.s x
    · rcases x with e | ⟨x, hx, hxc⟩
      · exact hCw (by have e' : b = H2.objs.size := e; rw [← e']; exact hb)
      · obtain ⟨a1, a2⟩ := hsh.cells x b hx hxc
        exact f.s (.inr ⟨x, a1, a2⟩)
  have hAc : AOk A n (within R env (compEnvC scope cl H2.objs.size env) H2) (compEnvC scope cl H2.objs.size env) := by
    refine ⟨hA.handled, hA.depth, hA.units, ?_⟩
    obtain ⟨l, L, e1, eL, fL, e0, e2⟩ := hA.stack
    have hLC : env.locals ≠ H2.objs.size := fun e => hCf.s (.inl e.symm)
    have hLn : ¬ slot (compEnvC scope cl H2.objs.size env) env.locals := by
      rintro (e | ⟨x, hx, hxc⟩)
      · exact hLC e
      · obtain ⟨a1, a2⟩ := hsh.cells x _ hx hxc
        exact I₂.nloc x a1 a2
    obtain ⟨m, ⟨o0, es, ep, ho0, hd0, _⟩, _⟩ := I₂.loc
    have upL : (within R env (compEnvC scope cl H2.objs.size env) H2).up env.locals o0 := .inr ⟨.inl rfl, hLn, ho0⟩
    refine ⟨l, L, e1, eL, .inr ?_, e0, fun e he => ?_⟩
    · rcases fL with rfl | ⟨o, fL⟩
      · exact ⟨_, upL⟩
      · exact ⟨o, .inl fL⟩
    · obtain ⟨k, L, f1, f2⟩ := e2 e he
      refine ⟨k, L, f1, .inr ?_⟩
      rcases f2 with rfl | ⟨o, f2, f3⟩
      · exact ⟨o0, upL, fun vs c => by rw [hd0] at c; cases c⟩
      · exact ⟨o, .inl f2, f3⟩
  have Oc : EnvOk (compEnvC scope cl H2.objs.size env) (relab scope sc) := ⟨relabel_eq O.scope, by show scope.kind = _; exact hkind, O.globals, O.builtins⟩
  have st₃ : St 0 h₃ := W.frame _ _ _ st₁ (fun b _ o e => k23 b o (k12 b o e)) (fun b o p => I₁.keepP b o p) fun b o p => J.keepP b o p
  have hD3 := k23 _ _ hD2
  have loop : ∀ s₃ : Shared, s₃ = { s with heap := h₃, toks := tk₁ + ([] : List (Str × Value)).length } →
      codeAny (model g.prog g.w) A (.compLoop (ck.ex elt tgt iter ifs scope pos) 0 (.ref It) (.ref h₁.objs.size) (compEnvC scope cl H2.objs.size env)) (compPost (model g.prog g.w) A NoE use Q (.ref h₁.objs.size) H2.objs.size) s₃ := by
    rintro s₃ rfl
    refine lc_loop ck tst val Oc hAc W hDwr hz hturn ⟨P₁, δ₁, h₃, _, 0, [], rfl, fun _ _ z => z, List.prefix_refl _, J, inF, st₃, hoH _ _ hD3, .nil, Nat.zero_le _, rfl⟩ ?_
    intro P' δ' h' tk' ys le pr J' hf' hpl hys
    have K := I₂.outer hsh hC2 le pr J'
    have hD' := hf' h₁.objs.size List.mem_cons_self
    have hDfree : Free R P' δ' env h₁.objs.size := ⟨fun o x => hD'.r o (any_within x), hD'.p, hD'.d, hDf.s⟩
    obtain ⟨m, hm, _⟩ := J'.loc
    have sC : slot (compEnvC scope cl H2.objs.size env) H2.objs.size := .inl rfl
    have hCfree : Free R P' δ' env H2.objs.size := ⟨fun o x => J'.offR _ o sC (any_within x), fun o x => J'.offP _ o sC x, fun x => J'.offD _ sC x, hCf.s⟩
    exact hp _ δ' H2.objs.size h₁.objs.size h' tk' ys (fun b o z => le b o (le₁ b o z)) (pr₁.trans pr) K ⟨m, hm⟩ hCfree hDfree (fun e => hCw (e ▸ List.mem_cons_self)) hpl hys (fun e => hCf.s (.inl e))
  exact codeAny_compStart_ck ck (loop _ rfl) (wpAny_mono (W.self 0 _ _ st₃ (loop _ rfl)) (fun _ _ z => z) fun _ _ e => e.elim)

/-- a list that nobody else knows stays as it is from now on -/
theorem lc_pin {C D : Addr} {ys : List Value} {xs : List V} (I : Inv g R P δ env ρ σ h) (hC : Free R P δ env C) (hD : Free R P δ env D) (hne : D ≠ C) (hpl : CK.l.has g.w h D ys) (hys : g.SeesL P δ ys xs) :
    ∃ P', (∀ b o, P b o → P' b o) ∧ Inv g R P' δ env ρ σ h ∧ Free R P' δ env C ∧ g.Sees P' δ (.ref D) (.list xs) := by
  obtain ⟨k, hpl⟩ := hpl
  refine ⟨_, pin_le, I.pin hD hpl, ⟨hC.r, fun o x => ?_, hC.d, hC.s⟩, .mkList pin_at rfl rfl (hys.mono pin_le (List.prefix_refl _))⟩
  rcases x with x | ⟨x, _⟩
  · exact hC.p o x
  · exact hne x.symm

/-- a list comprehension -/
theorem ev_lc {tgt elt iter : Expr} {ifs : List Expr} {scope : Scope} {pos : Pos} {xs : List V} {y : V} (tst : Nat → Bool) (val : Nat → V) (hsrc : Src g sc n iter ρ σ xs σ₁ tgt) (hz : xs.length ≤ 16777215)
    (hturn : ∀ i y, xs[i]? = some y → ∃ ρ', Asg g (relab scope sc) n tgt y (capt scope sc ρ) ρ' ∧ Sub (capt scope sc ρ) ρ' ∧ Tst g (relab scope sc) n ifs ρ' σ₁ (tst i) ∧ (tst i = true → Ev g (relab scope sc) n elt ρ' σ₁ (val i) σ₁))
    (hy : y = .list (outs tst val xs.length)) (hc : lcScope scope = true := by decide +kernel) (hl : lcLends scope sc = true := by decide +kernel) (hs : ∀ env x, foldedSetIterable iter env x = pure x := by intro _ _; rfl) : Ev g sc n (.ListComp elt [⟨tgt, iter, ifs, 0⟩] scope pos) ρ σ y σ₁ := .mk fun env A R P δ s Q O hA I h => by
  subst hy
  rw [eval_ListComp]
  refine wp_lc .l tst val hc hl hsrc hz (fun i y hy => let ⟨ρ', a, b, c, d⟩ := hturn i y hy; ⟨ρ', a, b, c, fun e => ⟨d e, trivial⟩⟩) (use := none) O hA I (hs env) fun P' δ' C D h' tk' ys le pr I' hm hf hDf hDC hpl hys hne => ?_
  obtain ⟨m, hm⟩ := hm
  obtain ⟨P₂, le₂, I₂, hf₂, hD⟩ := lc_pin I' hf hDf hDC hpl hys
  exact ⟨m, hm, fun h'' hs'' => h _ P₂ δ' h'' tk' (fun b o z => le₂ b o (le b o z)) pr (I₂.sameBut hf₂ hs'') hD⟩
/-- a name is given a list comprehension -/
theorem ex1_lc {a : Str} {pa p : Pos} {tgt elt iter : Expr} {ifs : List Expr} {scope : Scope} {pos : Pos} {xs : List V} {y : V} (tst : Nat → Bool) (val : Nat → V) (hsrc : Src g sc n iter ρ σ xs σ₁ tgt) (hz : xs.length ≤ 16777215)
    (hturn : ∀ i y, xs[i]? = some y → ∃ ρ', Asg g (relab scope sc) n tgt y (capt scope sc ρ) ρ' ∧ Sub (capt scope sc ρ) ρ' ∧ Tst g (relab scope sc) n ifs ρ' σ₁ (tst i) ∧ (tst i = true → Ev g (relab scope sc) n elt ρ' σ₁ (val i) σ₁))
    (hy : y = .list (outs tst val xs.length)) (ha : isVar sc a = true := by decide +kernel) (hc : lcScope scope = true := by decide +kernel) (hl : lcLends scope sc = true := by decide +kernel) (hs : ∀ env x, foldedSetIterable iter env x = pure x := by intro _ _; rfl) : Ex1 g sc n (.Assign [.Name a pa] (.ListComp elt [⟨tgt, iter, ifs, 0⟩] scope pos) p) ρ σ ((a, y) :: ρ) σ₁ := .mk fun env A R P δ s Q O hA I k => by
  have hsw : swapsWith (.ListComp elt [⟨tgt, iter, ifs, 0⟩] scope pos) (some (.Name a pa)) p.line env = pure false ∨ swapsWith (.ListComp elt [⟨tgt, iter, ifs, 0⟩] scope pos) (some (.Name a pa)) p.line env = pure true := by
    show (pure _ : Sem Bool) = _ ∨ (pure _ : Sem Bool) = _
    generalize (env.blockKind == ScopeKind.function && env.kindOf a == some NameKind.local && pa.line == (Expr.ListComp elt [⟨tgt, iter, ifs, 0⟩] scope pos).pos.line && !(scope.names.any fun x => x.1 == a && (x.2 == NameKind.local || x.2 == NameKind.cell))) = b
    cases b
    · exact .inl rfl
    · exact .inr rfl
  rcases hsw with hsw | hsw
  · exact wpAny_Assign_Name ((ev_lc tst val hsrc hz hturn hy hc hl hs).run env A R P δ s _ O hA I fun v P₁ δ₁ hh₁ tk₁ le₁ pr₁ I₁ s₁ => wp_store (s := { s with heap := hh₁, toks := tk₁ }) O I₁ ha s₁ fun h' tk' I' => k P₁ δ₁ h' tk' le₁ pr₁ I') hsw
  · rw [exec_Assign_Name_used _ _ _ _ hsw]
    refine wpAny_bind (wpAny_standAt (wpAny_bind ?_))
    show wpAny _ A (comprehension _ scope env (firstIterPos [⟨tgt, iter, ifs, 0⟩] pos) (newList []) false (eval iter env) (some (assign (.Name a pa) env)) >>= fun _ => pure ()) _ NoE s
    refine wpAny_bind (wp_lc .l (Q := fun _ s' => wpAny (model g.prog g.w) A (pure ()) (fun _ s'' => wpAny (model g.prog g.w) A (pure Flow.next) Q NoE s'') NoE s') tst val hc hl hsrc hz (fun i y hy => let ⟨ρ', a, b, c, d⟩ := hturn i y hy; ⟨ρ', a, b, c, fun e => ⟨d e, trivial⟩⟩) (use := some (assign (.Name a pa) env)) O hA I (hs env) fun P' δ' C D h' tk' ys le' pr I' hm hf hDf hDC hpl hys hne => ?_)
    obtain ⟨P', le₂, I', hf, hD⟩ := lc_pin I' hf hDf hDC hpl hys
    have le := fun b o z => le₂ b o (le' b o z)
    subst hy
    obtain ⟨m, oC, es, ep, hoC, hdC, rC⟩ := hm
    have hfC : ∀ b ∈ [C], Free R P' δ' env b := fun b hb => List.mem_singleton.mp hb ▸ hf
    refine wpAny_assign_Name (wp_store (s := { s with heap := h', toks := tk' }) O (I'.hold hfC) ha hD fun h'' tk'' I'' => ?_)
    have hC'' := I''.keepR C oC (.inr ⟨List.mem_singleton.mpr rfl, hoC⟩)
    have J := I''.unhold I'.base fun b hb o e v c => by
      rw [List.mem_singleton.mp hb] at e
      have e : h'.get? C = some o := e
      rw [hoC] at e; cases e
      rw [hdC] at c; cases c
    exact ⟨m, ⟨oC, es, ep, hC'', hdC, rC⟩, fun h3 hs3 => wpAny_pure (wpAny_pure (k P' δ' h3 tk'' le pr (J.sameBut hf hs3)))⟩
end
end Mine
end
section
open PySem PySem.W PyProof.Rows PySem.Calls PySem.SeqAt
set_option Elab.async false
set_option linter.unusedVariables false
set_option maxRecDepth 100000
namespace Mine
section
variable {g : Glo} {R : RS} {P P' : PS} {δ δ' : List Addr} {env cenv : Env} {ρ ρ' ρc ρ₁ ρ₂ : Loc} {σ σ' σ₁ σ₂ σ₃ : List MO} {h h' : Heap} {sc : Scope} {n : Nat} {Φ : Out → Prop} {rest : List Stmt}

/-- a def's end: what it gives back, and what the cells hold then -/
noncomputable def End (x : V) (σ' : List MO) (o : Out) : Prop := o = .rt x σ' ∨ (x = .none ∧ ∃ r, o = .nx r σ')
theorem fn_at {name : Str} {params : Arguments} {body : List Stmt} {scope : Scope} {pos : Pos} {args : List V} {x : V} (names : List Str) (hd : (⟨name, params, body, scope, pos⟩ : DefRec) ∈ recsOf g.p)
    (hbind : ∀ pm cd doc vs, vs.length = args.length → bindArgs (docDef name params body scope pm cd doc) ⟨vs, []⟩ = pure (names.zip vs))
    (hbody : Ex g scope n body (names.zip args) σ (End x σ')) (hl : names.length = args.length := by rfl) (hn : names.Nodup := by decide +kernel) (hv : names.all (isVar scope) = true := by decide +kernel)
    (hco : scope.isCoroutine = false := by rfl) (hgen : scope.isGenerator = false := by rfl) (hk : scope.kind = .function := by rfl) : Fn g (n + 1) name args σ x σ' := by
  exact fn_gen (d := ⟨name, params, body, scope, pos⟩) hd (bind_plain (d := ⟨name, params, body, scope, pos⟩) names hbind hl hn hv) hbody hco hgen hk
/-- a word about what follows -/
theorem ex1_doc {x : Str} {k : Nat} {p p' : Pos} : Ex1 g sc n (.Expr (.Constant (.str x) k p) p') ρ σ ρ σ := .mk fun env A R P δ s Q O hA I kk => by
  refine wpAny_Expr_any (wpAny_Constant_str (kk P δ s.heap (s.toks + 1) (fun _ _ z => z) (List.prefix_refl _) I)) ?_ rfl
  unfold interactive
  rw [O.scope, O.kind]; rfl

theorem ret_end {x : V} : End x σ (.rt x σ) := .inl rfl
theorem nx_end : End .none σ (.nx ρ σ) := .inr ⟨rfl, ρ, rfl⟩

/-- two names are given a pair, the second first -/
theorem ex1_swap {a b : Str} {pa pb pt p : Pos} {k : Nat} {e : Expr} {x y : V} (h1 : Ev g sc n e ρ σ (.tup [x, y]) σ₁) (hw : ∀ env, env.scope = sc → swappedStores [.Tuple [.Name a pa, .Name b pb] k pt] e env = pure (some [a, b]) := by intro env e; unfold swappedStores Env.blockKind Env.kindOf; rw [e]; rfl)
    (hs : ∀ env, swapsWithSole [.Tuple [.Name a pa, .Name b pb] k pt] e p.line env = pure false := by intro _; rfl) (ha : isVar sc a = true := by decide +kernel) (hb : isVar sc b = true := by decide +kernel) :
    Ex1 g sc n (.Assign [.Tuple [.Name a pa, .Name b pb] k pt] e p) ρ σ ((a, x) :: (b, y) :: ρ) σ₁ := .mk fun env A R P δ s Q O hA I kk => by
  refine Assign_Tuple_swapped (h1.run env A R P δ s _ O hA I fun v P₁ δ₁ hh₁ tk₁ le₁ pr₁ I₁ s₁ => ?_) (hs env) (hw env O.scope)
  obtain ⟨t, vs, rfl, ht, hvs⟩ := I₁.tupOf s₁
  obtain ⟨v, u, rfl, hv, hu⟩ := hvs.two
  have hlen : [a, b].length = [v, u].toArray.size := rfl
  rw [hlen]
  refine wpAny_unpackItems_tuple (s := { s with heap := hh₁, toks := tk₁ }) hA.handled ht fun h' hx => ?_
  have I₂ := I₁.pinned_ext hx
  refine wpAny_assignInOrder_more (wpAny_bindName (wp_store (s := { s with heap := h', toks := tk₁ }) O I₂ hb hu fun h₃ tk₃ I₃ => ?_))
  refine wpAny_assignInOrder_more (wpAny_bindName (wp_store (s := { s with heap := h₃, toks := tk₃ }) O I₃ ha hv fun h₄ tk₄ I₄ => ?_))
  exact wpAny_assignInOrder_none (kk P₁ δ₁ h₄ tk₄ le₁ pr₁ I₄)

/-- what comes after a block -/
noncomputable def Thn (g : Glo) (sc : Scope) (n : Nat) (rest : List Stmt) (Φ : Out → Prop) : Out → Prop
  | .nx r s => Ex g sc n rest r s Φ
  | o => Φ o
theorem ex_try {body : List Stmt} {h₀ : ExceptHandler} {hs : List ExceptHandler} {pos : Pos} (h1 : Ex g sc n body ρ σ (Thn g sc n rest Φ)) : Ex g sc n (.Try body (h₀ :: hs) [] [] pos :: rest) ρ σ Φ := .mk fun env A R P δ s Q O hA I k => by
  refine wpAny_execs_cons (wpAny_Try_except (wpAny_mono (h1.run env A R P δ s (fun f s' => match f with | .next => wpAny (model g.prog g.w) A (execs rest env) Q NoE s' | f => Q f s') O hA I fun o ho => ?_) (fun f s₁ z => ?_) fun _ _ e => e.elim))
  · cases o with
    | nx r σ' => exact fun P' δ' h' tk' le pr I' => ho.run env A R P' δ' _ Q O hA I' fun o' ho' => (k o' ho').mono le pr
    | ct r σ' => exact k _ ho
    | bk r σ' => exact k _ ho
    | rt x σ' => exact k _ ho
  · cases f with
    | next => exact wpAny_execs_nil z
    | _ => exact z

theorem bind_var {d : DefRec} {x : V} {xs : List V} (a p : Str) (hbind : ∀ pm cd doc v vs, bindArgs (docDef d.name d.params d.body d.scope pm cd doc) ⟨v :: vs, []⟩ = (newTuple vs >>= fun t => pure [(a, v), (p, t)])) (hap : a ≠ p) (ha : isVar d.scope a = true) (hp : isVar d.scope p = true) (hz : xs.length ≤ 16777216)
    (pm cd doc) (ρ : Loc) (A : Around) (R : RS) (P : PS) (δ : List Addr) (env : Env) (s : Shared) (vs : List Value) (I : Inv g R P δ env ρ σ s.heap) (hvs : g.SeesL P δ vs (x :: xs)) :
    wpAny (model g.prog g.w) A (bindArgs (docDef d.name d.params d.body d.scope pm cd doc) ⟨vs, []⟩) (fun binds s₁ => ∃ P₁ h₁ tk₁, s₁ = { s with heap := h₁, toks := tk₁ } ∧ (∀ b o, P b o → P₁ b o) ∧ Inv g R P₁ δ env ρ σ h₁ ∧ Binds g P₁ δ binds [(a, x), (p, .tup xs)] ∧ ∀ b ∈ binds, isVar d.scope b.1 = true) NoE s := by
  obtain ⟨v, us, rfl, hv, hus⟩ := hvs.cons_inv
  rw [hbind]
  have hlen := hus.length
  refine wpAny_bind (wpAny_newTuple (wpAny_pure ⟨pinned P s.heap.objs.size { cls := .type "tuple", data := .seq us.toArray }, _, s.toks, rfl, pin_le, I.pushPin _, ⟨by simpa using hap, fun z y e => ?_⟩, fun b hb => ?_⟩) (by rw [sizeLine_eq]; omega))
  · rw [List.lookup_cons] at e
    by_cases hz : z = a
    · subst hz
      simp only [beq_self_eq_true] at e
      cases e
      exact ⟨v, List.mem_cons_self, hv.mono pin_le (List.prefix_refl _)⟩
    · have hb : (z == a) = false := by simpa using hz
      rw [hb, List.lookup_cons] at e
      by_cases hz' : z = p
      · subst hz'
        simp only [beq_self_eq_true] at e
        cases e
        exact ⟨_, List.mem_cons_of_mem _ List.mem_cons_self, .mkTup pin_at rfl rfl (hus.mono pin_le (List.prefix_refl _))⟩
      · have hb' : (z == p) = false := by simpa using hz'
        rw [hb'] at e; cases e
  · rcases List.mem_cons.mp hb with rfl | hb
    · exact ha
    · rw [List.mem_singleton.mp hb]; exact hp

noncomputable def AllIn : Loc → Loc → Prop
  | [], _ => True
  | p :: l, r => r.lookup p.1 = some p.2 ∧ AllIn l r
theorem sub_of {r : Loc} : ∀ {ρ : Loc}, AllIn ρ r → Sub ρ r
  | [], _, x, y, e => by cases e
  | (a, v) :: l, h, x, y, e => by
    rw [List.lookup_cons] at e
    by_cases hx : x = a
    · subst hx
      simp only [beq_self_eq_true] at e
      cases e
      exact h.1
    · have hb : (x == a) = false := by simpa using hx
      rw [hb] at e
      exact sub_of h.2 x y e
theorem evb_eq {e : Expr} {b c : Bool} (h : EvB g sc n e ρ σ b σ₁) (hb : b = c) : EvB g sc n e ρ σ c σ₁ := hb ▸ h
theorem ev_eq {e : Expr} {x y : V} (h : Ev g sc n e ρ σ x σ₁) (hb : x = y) : Ev g sc n e ρ σ y σ₁ := hb ▸ h
/-- names that are of no more use are let go -/
theorem ex_sub {ss : List Stmt} (h : Ex g sc n ss ρ' σ Φ) (hb : Sub ρ' ρ) : Ex g sc n ss ρ σ Φ := .mk fun env A R P δ s Q O hA I k => h.run env A R P δ s Q O hA (I.forget hb) k
end
end Mine
end
section
open PySem PySem.W PyProof.Rows PySem.Calls PySem.SeqAt
set_option Elab.async false
set_option linter.unusedVariables false
set_option maxRecDepth 100000
namespace Mine
/-- a tree that knows the first n cells alone -/
inductive Fl (n : Nat) : V → Prop
  | none : Fl n .none
  | bool (b) : Fl n (.bool b)
  | int (i) : Fl n (.int i)
  | tx (k l) : Fl n (.tx k l)
  | list (xs : List V) : (∀ (i : Nat) x, xs[i]? = some x → Fl n x) → Fl n (.list xs)
  | tup (xs : List V) : (∀ (i : Nat) x, xs[i]? = some x → Fl n x) → Fl n (.tup xs)
  | fdict (xs : List (Str × V)) : (∀ (i : Nat) x, xs[i]? = some x → Fl n x.2) → Fl n (.fdict xs)
  | cell (i : Nat) : i < n → Fl n (.cell i)
  | ty (s) : Fl n (.ty s)
  | fn (x) : Fl n (.fn x)
section
variable {g : Glo} {R : RS} {P P' : PS} {δ δ' : List Addr} {env cenv : Env} {ρ ρ' ρc ρ₁ ρ₂ : Loc} {σ σ' σ₁ σ₂ σ₃ : List MO} {h h' : Heap} {sc : Scope} {n : Nat} {Φ : Out → Prop} {rest : List Stmt}

theorem get_of_len {α β : Type} {l : List α} {m : List β} (hl : l.length = m.length) {i : Nat} {y : β} (e : m[i]? = some y) : ∃ x, l[i]? = some x := by
  have := (List.getElem?_eq_some_iff.mp e).1
  exact ⟨l[i]'(by omega), List.getElem?_eq_getElem (by omega)⟩
theorem Sees.fl {v : Value} {x : V} (s : g.Sees P δ v x) : Fl δ.length x := by
  induction s with
  | none => exact .none
  | bool b => exact .bool b
  | int i t => exact .int i
  | str l t => exact .tx _ _
  | bytes l t => exact .tx _ _
  | list a o vs m xs _ _ _ hl _ ih => exact .list _ fun i x e => let ⟨v, hv⟩ := get_of_len hl e; ih i v x hv e
  | tup a o vs m xs _ _ _ hl _ ih => exact .tup _ fun i x e => let ⟨v, hv⟩ := get_of_len hl e; ih i v x hv e
  | fdict a o kvs xs _ _ hk _ ih => exact .fdict _ fun i x e => let ⟨v, hv⟩ := get_of_len (by have := congrArg List.length hk; simpa using this : kvs.length = xs.length) e; ih i v x hv e
  | cell a i e => exact .cell i (List.getElem?_eq_some_iff.mp e).1
  | ty m => exact .ty m
  | fn x a e => exact .fn x
theorem Sees.cut {v : Value} {x : V} (s : g.Sees P δ v x) (f : Fl n x) : g.Sees P (δ.take n) v x := by
  induction s with
  | none => exact .none
  | bool b => exact .bool b
  | int i t => exact .int i t
  | str l t => exact .str l t
  | bytes l t => exact .bytes l t
  | list a o vs m xs h1 h2 h3 h4 _ ih => cases f with | list _ f => exact .list a o vs m xs h1 h2 h3 h4 fun i v x a b => ih i v x a b (f i x b)
  | tup a o vs m xs h1 h2 h3 h4 _ ih => cases f with | tup _ f => exact .tup a o vs m xs h1 h2 h3 h4 fun i v x a b => ih i v x a b (f i x b)
  | fdict a o kvs xs h1 h2 h3 _ ih => cases f with | fdict _ f => exact .fdict a o kvs xs h1 h2 h3 fun i v x a b => ih i v x a b (f i x b)
  | cell a i e => cases f with | cell _ f => exact .cell a i (by rw [List.getElem?_take, if_pos f]; exact e)
  | ty m => exact .ty m
  | fn x a e => exact .fn x a e
noncomputable def FlO (n : Nat) : MO → Prop
  | .dict xs => ∀ (i : Nat) x, xs[i]? = some x → Fl n x.2
  | .list xs => ∀ (i : Nat) x, xs[i]? = some x → Fl n x
theorem MSees.fl {a : Addr} {o : MO} (s : MSees g P δ h a o) : FlO δ.length o := by
  cases o with
  | dict xs =>
    obtain ⟨kvs, _, hs⟩ := s
    exact fun i x e => let ⟨v, hv⟩ := get_of_len (by have := congrArg List.length hs.1; simpa using this : kvs.length = xs.length) e; (hs.2 i v x hv e).fl
  | list xs =>
    obtain ⟨vs, _, hs⟩ := s
    exact fun i x e => let ⟨v, hv⟩ := get_of_len hs.1 e; (hs.2 i v x hv e).fl
theorem MSees.cut {a : Addr} {o : MO} (s : MSees g P δ h a o) (f : FlO n o) : MSees g P (δ.take n) h a o := by
  cases o with
  | dict xs =>
    obtain ⟨kvs, hd, hs⟩ := s
    exact ⟨kvs, hd, hs.1, fun i v x a b => (hs.2 i v x a b).cut (f i x b)⟩
  | list xs =>
    obtain ⟨vs, hd, hs⟩ := s
    exact ⟨vs, hd, hs.1, fun i v x a b => (hs.2 i v x a b).cut (f i x b)⟩
/-- cells that nobody knows any more -/
theorem Inv.cut {j : List MO} (I : Inv g R P δ env ρ (σ ++ j) h) (hρ : ∀ x y, ρ.lookup x = some y → Fl σ.length y) (hσ : ∀ (i : Nat) o, σ[i]? = some o → FlO σ.length o) : Inv g R P (δ.take σ.length) env ρ σ h where
  keepR := I.keepR
  keepU := I.keepU
  part := I.part
  keepP := I.keepP
  base := I.base
  sep := I.sep
  loc := by
    obtain ⟨m, hn, hm⟩ := I.loc
    refine ⟨m, hn, fun x y e => ?_⟩
    obtain ⟨v, hs, hl⟩ := hm x y e
    exact ⟨v, hs.cut (hρ x y e), hl⟩
  cel := I.cel
  one := I.one
  nloc := I.nloc
  offP := I.offP
  offR := I.offR
  offD := fun a hs hd => I.offD a hs (List.mem_of_mem_take hd)
  dP := fun a o hd => I.dP a o (List.mem_of_mem_take hd)
  dR := fun a o hd => I.dR a o (List.mem_of_mem_take hd)
  dN := (List.take_sublist _ _).nodup I.dN
  len := by have := I.len; rw [List.length_take]; simp at this; omega
  objs := fun i a o hi ho => by
    have hlt := (List.getElem?_eq_some_iff.mp ho).1
    rw [List.getElem?_take, if_pos hlt] at hi
    exact (I.objs i a o hi (by rw [List.getElem?_append_left hlt]; exact ho)).cut (hσ i o ho)
theorem fn_drop {f : Str} {args : List V} {x : V} {j : List MO} (F : Fn g n f args σ x (σ ++ j)) (hx : ∀ m, Fl m x) : Fn g n f args σ x σ := by
  obtain ⟨a, o, fd, h1, h2, h3, h4⟩ := F
  refine ⟨a, o, fd, h1, h2, h3, ?_⟩
  intro env ρ A R P δ s Q vs hA I hvs k
  refine h4 env ρ A R P δ s Q vs hA I hvs fun v P' δ' h' tk' le pr I' hs => ?_
  have hlen := I.len
  refine k v P' (δ'.take σ.length) h' tk' le ?_ (I'.cut (fun x y e => ?_) fun i o ho => ?_) (hs.cut (hx _))
  · obtain ⟨t, rfl⟩ := pr
    rw [List.take_append_of_le_length (by omega)]
    exact ⟨[], by rw [List.append_nil, List.take_of_length_le (by omega)]⟩
  · obtain ⟨m, _, hm⟩ := I.loc
    obtain ⟨v, hs, _⟩ := hm x y e
    have := hs.fl
    rwa [hlen] at this
  · have hlt := (List.getElem?_eq_some_iff.mp ho).1
    obtain ⟨c, hc⟩ := get_of_len hlen ho
    have := (I.objs i c o hc ho).fl
    rwa [hlen] at this

/-- a list that will change -/
theorem ev_newL {es : List Expr} {p : Pos} {xs : List V} (h1 : EvL g sc n p es ρ σ xs σ₁) (hz : xs.length ≤ 16777216 := by simp) : Ev g sc n (.List es p) ρ σ (.cell σ₁.length) (σ₁ ++ [.list xs]) := by
  refine .mk ?_
  intro env A R P δ s Q O hA I h
  refine wpAny_List_spliced (h1.run env A R P δ s _ O hA I fun vs P₁ δ₁ hh₁ tk₁ le₁ pr₁ I₁ s₁ => ⟨by rw [s₁.length, sizeLine_eq]; exact hz, ?_⟩)
  have I₂ := (I₁.grows (h' := hh₁.push { cls := .type "list", data := .seq vs.toArray }) fun b o e => Heap.get?_push_of_some _ e).newCell (o := .list xs) (I₁.free (get_size_none hh₁)) ⟨vs, ⟨0, Heap.get?_push_size _ rfl⟩, s₁⟩
  refine h _ P₁ (δ₁ ++ [hh₁.objs.size]) _ tk₁ le₁ (pr₁.trans (List.prefix_append _ _)) I₂ (.cell _ _ ?_)
  rw [← I₁.len]; simp
end
end Mine
end
section
open PySem PySem.W PyProof.Rows PySem.Calls PySem.SeqAt
set_option Elab.async false
set_option linter.unusedVariables false
set_option maxRecDepth 100000
namespace Mine
theorem mro_map : mroOf (.type "map") = pure [.type "map", .type "object"] := by rw [mroOf_type]; kernel_rfl
theorem map_new : typeLookup (.type "map") "__new__" = pure (some (.builtin "map.__new__")) := by rw [typeLookup_type, builtinLookup_eq_fast]; kernel_rfl
theorem slot_map_init : Slot "map" "__init__" "object.__init__" :=
  .of (owner := "object") (n := "__init__") (by rw [typeLookup_type, builtinLookup_eq_fast]; kernel_rfl) (by decide +kernel) (by decide +kernel) (by decide +kernel)
    (by first | exact .inl (by decide +kernel) | exact .inr (by decide +kernel)) (by rw [isSubtype_type]; kernel_rfl)
theorem slot_map_next : Slot "map" "__next__" "map.__next__" :=
  .of (owner := "map") (n := "__next__") (by rw [typeLookup_type, builtinLookup_eq_fast]; kernel_rfl) (by decide +kernel) (by decide +kernel) (by decide +kernel)
    (by first | exact .inl (by decide +kernel) | exact .inr (by decide +kernel)) (by rw [isSubtype_type]; kernel_rfl)
theorem slot_map_iter : Slot "map" "__iter__" "map.__iter__" :=
  .of (owner := "map") (n := "__iter__") (by rw [typeLookup_type, builtinLookup_eq_fast]; kernel_rfl) (by decide +kernel) (by decide +kernel) (by decide +kernel)
    (by first | exact .inl (by decide +kernel) | exact .inr (by decide +kernel)) (by rw [isSubtype_type]; kernel_rfl)
theorem called_map : TypeCalled "map" "map.__new__" "object.__init__" :=
  ⟨by decide +kernel, by decide +kernel, ⟨_, _, mro_map⟩, madeBy_type mro_map map_new (by decide +kernel), by decide +kernel, by rw [isSubtype_type]; kernel_rfl, slot_map_init⟩
theorem map_call_2 (a b : Value) : checkTypeCall "map" ⟨[a, b], []⟩ = pure () := by kernel_rfl
theorem map_newcall_2 (a b : Value) : checkBuiltinCall "map.__new__" ⟨[.type "map", a, b], []⟩ = pure () := by kernel_rfl
theorem entry_map_new : entryFor table "map.__new__" = some Builtin.«map.__new__» := entryFor_of_tree (by kernel_rfl)
theorem entry_map_next : entryFor table "map.__next__" = some Builtin.«map.__next__» := entryFor_of_tree (by kernel_rfl)
theorem entry_map_iter : entryFor table "map.__iter__" = some Builtin.«dict_keyiterator.__iter__» :=
  entryFor_alias (id' := "dict_keyiterator.__iter__") (by rw [fastTable_eq_tree]; kernel_rfl) rfl (by decide +kernel) (by rw [fastTable_eq_tree]; kernel_rfl)
theorem args_map_next (a : Value) : argsOk "map.__next__" ⟨[a], []⟩ := by unfold argsOk; kernel_rfl
theorem args_map_iter (a : Value) : argsOk "map.__iter__" ⟨[a], []⟩ := by unfold argsOk; kernel_rfl
theorem sub_map : isSubtype (.type "map") (.type "map") = pure true := by rw [isSubtype_type]; kernel_rfl
theorem map_nolen : typeLookup (.type "map") "__len__" = pure none := by rw [typeLookup_type, builtinLookup_eq_fast]; kernel_rfl
theorem map_nohint : typeLookup (.type "map") "__length_hint__" = pure none := by rw [typeLookup_type, builtinLookup_eq_fast]; kernel_rfl

/-- the heap with a map in it -/
noncomputable def mapH (h : Heap) (f l : Addr) : Heap := ((h.push { cls := .type "list_iterator", data := .fields #[.ref l, .int 0 0] }).push { cls := .type "tuple", data := .seq #[.ref h.objs.size] }).push { cls := .type "map", data := .fields #[.ref (h.push { cls := .type "list_iterator", data := .fields #[.ref l, .int 0 0] }).objs.size, .ref f] }

theorem meets_map_new (f l : Addr) (xs : Array Value) :
    Meets (Builtin.«map.__new__» ⟨[.type "map", .ref f, .ref l], []⟩) (fun _ R s => s.heap.IsList l xs ∧ R (.ok (.ret (.ref ((s.heap.push { cls := .type "list_iterator", data := .fields #[.ref l, .int 0 0] }).push { cls := .type "tuple", data := .seq #[.ref s.heap.objs.size] }).objs.size))) { s with heap := mapH s.heap f l }) :=
  .of_wp fun prog w A R s h => by
    obtain ⟨hp, g, d, tk, os⟩ := s; obtain ⟨hl, h⟩ := h
    have hsub := sub_map
    have hL : Heap.IsList (Shared.heap ⟨hp, g, d, tk, os⟩) l xs := hl
    wp_walk using wpAny_pyIter_list hL
    exact ⟨_, rfl, h⟩

structure MapAt (h : Heap) (m T I f l : Addr) (vs : List Value) (i : Nat) : Prop where
  map : h.get? m = some { cls := .type "map", data := .fields #[.ref T, .ref f] }
  tup : h.get? T = some { cls := .type "tuple", data := .seq #[.ref I] }
  it : h.IsListIter I l i
  lst : h.IsList l vs.toArray

section
variable {prog : Program} {w : World} {A : Around} {s : Shared} {m T I f l : Addr} {vs : List Value} {i : Nat}
theorem map_next_item {x : Value} {Q : Option Value → Shared → Prop} (D : MapAt s.heap m T I f l vs i) (hx : vs[i]? = some x)
    (hc : ∀ h', h'.IsListIter I l (i + 1) → Heap.SameBut I s.heap h' → wpAny (model prog w) A.in1 (call (.ref f) [x]) (fun r s' => Q (some r) s') NoE { s with heap := h' }) : wpAny (model prog w) A (pyNext (.ref m)) Q NoE s := by
  have hT : s.TypeIs (.ref m) "map" := ⟨_, D.map, rfl⟩
  have hmI : m ≠ I := by rintro rfl; obtain ⟨o, e, c, _⟩ := D.it; rw [D.map] at e; cases e; simp at c
  unfold pyNext
  refine wpAny_bind (wpAny_attempt (wpAny_callSpecial?_slot (name := Str.ofString "__next__") hT slot_map_next (wpAny_call_entry slot_map_next hT entry_map_next ?_ (args_map_next _))))
  show wpAny _ _ (field (.ref m) 0 >>= _) _ _ _
  refine wpAny_bind (wpAny_field D.map rfl (x := .ref T) rfl ?_)
  refine wpAny_bind (wpAny_seqItems D.tup rfl ?_)
  simp only [← Array.forIn_toList, List.forIn_cons, List.forIn_nil]
  refine wpAny_bind (wpAny_bind (wpAny_bind (wpAny_holding (wpAny_nextOf_list_item D.it D.lst (by simpa using hx) fun h₁ hi₁ hs₁ => ?_))))
  refine wpAny_pure (wpAny_pure ?_)
  have hm₁ : h₁.get? m = some _ := (hs₁.2 m hmI).trans D.map
  refine wpAny_bind (wpAny_field hm₁ rfl (x := .ref f) rfl ?_)
  refine wpAny_bind (wpAny_holding (wpAny_mono (hc h₁ hi₁ hs₁) (fun r s' h => ?_) fun _ _ e => e.elim))
  exact wpAny_bind (wpAny_letGo (wpAny_pure ⟨_, rfl, wpAny_pure h⟩))
theorem map_next_end {Q : Option Value → Shared → Prop} (hh : A.handled = none) (D : MapAt s.heap m T I f l vs i) (hx : vs[i]? = none)
    (hQ : ∀ h', Heap.ExtBut I s.heap h' → Q none { s with heap := h' }) : wpAny (model prog w) A (pyNext (.ref m)) Q NoE s := by
  have hT : s.TypeIs (.ref m) "map" := ⟨_, D.map, rfl⟩
  unfold pyNext
  refine wpAny_bind (wpAny_attempt (wpAny_callSpecial?_slot (name := Str.ofString "__next__") hT slot_map_next (wpAny_call_entry slot_map_next hT entry_map_next ?_ (args_map_next _))))
  show wpAny _ _ (field (.ref m) 0 >>= _) _ _ _
  refine wpAny_bind (wpAny_field D.map rfl (x := .ref T) rfl ?_)
  refine wpAny_bind (wpAny_seqItems D.tup rfl ?_)
  simp only [← Array.forIn_toList, List.forIn_cons, List.forIn_nil]
  refine wpAny_bind (wpAny_bind (wpAny_bind (wpAny_holding (wpAny_nextOf_list_end hh D.it D.lst (by simpa using hx) fun h₁ e hs₁ he => ?_))))
  obtain ⟨o, ho, hc⟩ := he
  refine wpAny_bind (wpAny_isInstance (T := "StopIteration") (b := true) ⟨o, ho, hc⟩ isSubtype_stop ?_)
  exact wpAny_pure (hQ _ hs₁)
theorem map_iter {Q : Value → Shared → Prop} (D : MapAt s.heap m T I f l vs i) (h : Q (.ref m) s) : wpAny (model prog w) A (pyIter (.ref m)) Q NoE s := by
  have hT : s.TypeIs (.ref m) "map" := ⟨_, D.map, rfl⟩
  refine wpAny_pyIter_slot hT slot_map_iter (wpAny_call_entry slot_map_iter hT entry_map_iter ?_ (args_map_iter _))
  show wpAny _ _ (ret (.ref m)) _ _ s
  exact wpAny_pure ⟨_, rfl, "map", _, hT, slot_map_next.lookup, h⟩
end

section
variable {g : Glo} {R : RS} {P P' : PS} {δ δ' : List Addr} {env cenv : Env} {ρ ρ' ρc ρ₁ ρ₂ : Loc} {σ σ' σ₁ σ₂ σ₃ : List MO} {h h' : Heap} {sc : Scope} {n : Nat} {Φ : Out → Prop} {rest : List Stmt}

theorem MapAt.noncell {m T I f l : Addr} {vs : List Value} {i : Nat} (D : MapAt h m T I f l vs i) : ∀ b ∈ [m, T, I], ∃ o, h.get? b = some o ∧ ∀ v, o.data ≠ .cell v := fun b hb => by
  simp at hb
  rcases hb with rfl | rfl | rfl
  · exact ⟨_, D.map, fun v c => by cases c⟩
  · exact ⟨_, D.tup, fun v c => by cases c⟩
  · obtain ⟨o, e, _, hd⟩ := D.it
    exact ⟨o, e, fun v c => by rw [hd] at c; cases c⟩

theorem map_loop {f S m T I l : Addr} {oL : Obj} {nL : Nat} {xs : List V} {vs : List Value} {res : Value} {A : Around} {Rr : Result → Shared → Prop}
    (hop : ∀ x ∈ xs, Op g n σ [x] (fun us => call (.ref f) us) (fun P δ v => g.Sees P δ v x) σ) (hz : xs.length ≤ 16777216) (hA : AOk A (n + 2) R env) (hS : S ∉ [m, T, I]) (hcl : oL.cls = .type "list") (hdl : oL.data = .seq vs.toArray nL) :
    ∀ (k i : Nat) (s : Shared) (P : PS) (δ : List Addr) (acc : List Value) (c : Nat), xs.length - i = k → i ≤ xs.length → Inv g R P δ env ρ σ s.heap → (∀ b ∈ S :: [m, T, I], Free R P δ env b) → MapAt s.heap m T I f l vs i →
      s.heap.get? S = some { cls := .type "list", data := .seq acc.toArray c } → g.SeesL P δ acc (xs.take i) → g.SeesL P δ vs xs → P l oL →
      (∀ P' δ' h' tk' acc' c', (∀ b o, P b o → P' b o) → δ <+: δ' → Inv g R P' δ' env ρ σ h' → h'.get? S = some { cls := .type "list", data := .seq (acc' : List Value).toArray c' } → g.SeesL P' δ' acc' xs → Rr (.ok (.ret res)) { s with heap := h', toks := tk' }) →
      codeAny (model g.prog g.w) A (.builtin "list.extend.loop" ⟨[.ref S, .ref m, res], []⟩) Rr s := by
  intro k
  induction k with
  | zero =>
    intro i s P δ acc c hk hi I' hf D hSo hacc hvs hPl hR
    have hin : i = xs.length := by omega
    refine codeAny_builtin F.entry_extend_loop ?_
    rw [Around.under_plainId F.plain_extend_loop _]
    show wpAny _ A.in1 (pyNext (.ref m) >>= _) _ _ s
    refine wpAny_bind (wpAny_mono (map_next_end (Q := fun r s' => r = none ∧ Rr (.ok (.ret res)) s') hA.handled D (by rw [hin]; rw [← hvs.length]; simp) fun h' hx => ⟨rfl, ?_⟩) (fun r s' hr => ?_) fun _ _ e => e.elim)
    · have hfI := hf I (by simp)
      have hSI : S ≠ I := fun e => hS (by simp [e])
      have I₂ : Inv g R P δ env ρ σ h' := I'.keeps fun b o q e => hx b o (hfI.keep q) e
      rw [hin, List.take_length] at hacc
      exact hR P δ h' s.toks acc c (fun _ _ z => z) (List.prefix_refl _) I₂ (hx S _ hSI hSo) hacc
    · obtain ⟨rfl, hr⟩ := hr
      exact wpAny_pure hr
  | succ k ih =>
    intro i s P δ acc c hk hi I' hf D hSo hacc hvs hPl hR
    have hlt : i < xs.length := by omega
    have hlv := hvs.length
    have hv : vs[i]? = some (vs[i]'(by omega)) := List.getElem?_eq_getElem (by omega)
    have hx : xs[i]? = some xs[i] := List.getElem?_eq_getElem hlt
    refine codeAny_builtin F.entry_extend_loop ?_
    rw [Around.under_plainId F.plain_extend_loop _]
    show wpAny _ A.in1 (pyNext (.ref m) >>= _) _ _ s
    have hfI := hf I (by simp)
    have hSI : S ≠ I := fun e => hS (by simp [e])
    have A2 : AOk A.in1.in1 n R env := hA.in1.in1
    refine wpAny_bind (wpAny_mono (map_next_item (Q := fun r s' => ∃ v P₁ δ₁ h₁ tk₁, r = some v ∧ s' = { s with heap := h₁, toks := tk₁ } ∧ (∀ b o, P b o → P₁ b o) ∧ δ <+: δ₁ ∧ Inv g R P₁ δ₁ env ρ σ h₁ ∧ (∀ b ∈ S :: [m, T, I], Free R P₁ δ₁ env b) ∧ MapAt h₁ m T I f l vs (i + 1) ∧
        h₁.get? S = some { cls := .type "list", data := .seq acc.toArray c } ∧ g.Sees P₁ δ₁ v xs[i]) D hv fun h' hit hs => ?_) (fun r s' hr => ?_) fun _ _ e => e.elim)
    · have I₂ : Inv g R P δ env ρ σ h' := I'.sameBut hfI hs
      have ne : ∀ b, b ≠ I → ∀ o, s.heap.get? b = some o → h'.get? b = some o := fun b hb o e => (hs.2 b hb).trans e
      have hmI : m ≠ I := by rintro rfl; obtain ⟨o, e, c, _⟩ := D.it; rw [D.map] at e; cases e; simp at c
      have hTI : T ≠ I := by rintro rfl; obtain ⟨o, e, c, _⟩ := D.it; rw [D.tup] at e; cases e; simp at c
      have D' : MapAt h' m T I f l vs (i + 1) := ⟨ne m hmI _ D.map, ne T hTI _ D.tup, hit, ⟨oL, I₂.keepP _ _ hPl, hcl, nL, hdl⟩⟩
      have hS' := ne S hSI _ hSo
      have lv : ∀ b ∈ S :: [m, T, I], ∃ o, h'.get? b = some o ∧ ∀ v, o.data ≠ .cell v := fun b hb => by
        rcases List.mem_cons.mp hb with rfl | hb
        · exact ⟨_, hS', fun v c => by cases c⟩
        · exact D'.noncell b hb
      refine hop xs[i] (List.getElem_mem hlt) env ρ A.in1.in1 (held R (S :: [m, T, I]) h') P δ { s with heap := h' } _ [vs[i]'(by omega)] A2.held (I₂.hold hf) (.cons (hvs.2 i _ _ hv hx) .nil) fun v P₁ δ₁ h₁ tk₁ le₁ pr₁ I₃ hs₁ => ?_
      have same : ∀ b ∈ S :: [m, T, I], ∀ o, h'.get? b = some o → h₁.get? b = some o := fun b hb o e => I₃.keepR b o (.inr ⟨hb, e⟩)
      refine ⟨v, P₁, δ₁, h₁, tk₁, rfl, rfl, le₁, pr₁, I₃.unhold I'.base fun b hb o e => let ⟨o', e', c⟩ := lv b hb; by rw [e'] at e; cases e; exact c, I₃.still I'.base hf fun b hb => let ⟨o, e, _⟩ := lv b hb; ⟨o, e⟩, ?_, same S (by simp) _ hS', hs₁⟩
      exact ⟨same m (by simp) _ D'.map, same T (by simp) _ D'.tup, let ⟨o, e, r⟩ := D'.it; ⟨o, same I (by simp) _ e, r⟩, ⟨oL, I₃.keepP _ _ (le₁ _ _ hPl), hcl, nL, hdl⟩⟩
    · obtain ⟨v, P₁, δ₁, h₁, tk₁, rfl, rfl, le₁, pr₁, I₃, hf₁, D₁, hS₁, hv₁⟩ := hr
      show wpAny _ A.in1 (updateSeq S (·.push v) >>= _) _ _ _
      have hla := hacc.length
      rw [List.length_take] at hla
      refine wpAny_bind (wpAny_updateSeq hS₁ rfl (wpAny_pure ⟨plainId_quiet F.plain_extend_loop _, ?_⟩) (by rw [sizeLine_eq]; simp; omega) (by rw [sizeLine_eq]; simp; omega))
      have hsb : Heap.SameBut S h₁ (h₁.update S (Obj.mapSeq (·.push v))) := Heap.SameBut.update ..
      have hfS := hf₁ S (by simp)
      have ne : ∀ b ∈ [m, T, I], b ≠ S := fun b hb e => hS (e ▸ hb)
      have hget : (h₁.update S (Obj.mapSeq (·.push v))).get? S = some { cls := .type "list", data := .seq (acc ++ [v]).toArray (c + 1) } := by
        rw [Heap.get?_update_self _ hS₁ (by rw [Obj.mapSeq_push_plain]; rfl), Obj.mapSeq_push_plain]
        simp
      have I₄ := I₃.sameBut hfS hsb
      refine ih (i + 1) { s with heap := _, toks := tk₁ } P₁ δ₁ (acc ++ [v]) (c + 1) (by omega) hlt I₄ hf₁ ⟨(hsb.2 m (ne m (by simp))).trans D₁.map, (hsb.2 T (ne T (by simp))).trans D₁.tup, let ⟨o, e, r⟩ := D₁.it; ⟨o, (hsb.2 I (ne I (by simp))).trans e, r⟩, ⟨oL, I₄.keepP _ _ (le₁ _ _ hPl), hcl, nL, hdl⟩⟩ hget ?_ (hvs.mono le₁ pr₁) (le₁ _ _ hPl) fun P' δ' h' tk' acc' c' le' pr' I'' hS'' hs'' => ?_
      · rw [List.take_add_one, hx]
        exact (hacc.mono le₁ pr₁).append (.cons hv₁ .nil)
      · exact hR P' δ' h' tk' acc' c' (fun b o z => le' b o (le₁ b o z)) (pr₁.trans pr') I'' hS'' hs''
end
end Mine
end
section
open PySem PySem.W PyProof.Rows PySem.Calls PySem.SeqAt
open AutoSeq1 (wpAny_loadPart')
set_option Elab.async false
set_option linter.unusedVariables false
set_option maxRecDepth 100000
namespace Mine
section
variable {prog : Program} {w : World} {A : Around} {E : Value → Shared → Prop} {s : Shared}
theorem code_tuple_new_of {a : Addr} {K : List Value → Shared → Prop} {Q₁ : Value → Shared → Prop} (hT : s.TypeIs (.ref a) "map") (hcoll : ∀ (Q' : List Value → Shared → Prop), (∀ l s', K l s' → Q' l s') → wpAny (model prog w) A.in1 (collect (.ref a)) Q' E s)
    (h : ∀ l s', K l s' → l.length ≤ sizeLine ∧ Q₁ (.ref s'.heap.objs.size) { s' with heap := s'.heap.push { cls := .type "tuple", data := .seq l.toArray } }) :
    codeAny (model prog w) A (.call (.builtin "tuple.__new__") ⟨[.type "tuple", .ref a], []⟩) (wants Q₁ E) s := by
  refine codeAny_of_tree ?_
  show wpAny _ A.in1 (do checkBuiltinCall "tuple.__new__" ⟨[.type "tuple", .ref a], []⟩; again (.builtin "tuple.__new__" ⟨[.type "tuple", .ref a], []⟩)) _ _ s
  refine wpAny_bind (wpAny_of_eq (F.newCall_tuple_1 _) (wpAny_pure ⟨plainId_quiet F.plain_tuple_new _, codeAny_builtin F.entry_tuple_new ?_⟩))
  rw [Around.under_plainId F.plain_tuple_new _]
  have hsub := sub_tuple_self
  have hinit := init_tuple_lookup
  have hmh := madeHere_tuple
  wp_walk using wpAny_typeOf hT, hcoll
  intro l s' hk
  obtain ⟨h1, h2⟩ := h l s' hk
  show wpAny _ _ (Builtin.Tuple.tupleExact l.toArray >>= fun v => ret v) _ _ _
  unfold Builtin.Tuple.tupleExact
  refine wpAny_bind (wpAny_newObj_type ?_ (by show l.toArray.size ≤ sizeLine; simpa using h1))
  exact wpAny_pure h2
end

section
variable {g : Glo} {R : RS} {P P' : PS} {δ δ' : List Addr} {env cenv : Env} {ρ ρ' ρc ρ₁ ρ₂ : Loc} {σ σ' σ₁ σ₂ σ₃ : List MO} {h h' : Heap} {sc : Scope} {n : Nat} {Φ : Out → Prop} {rest : List Stmt}

theorem wp_collect_map {f m T I l : Addr} {oL : Obj} {nL : Nat} {xs : List V} {vs : List Value} {A : Around} {s : Shared} {Q : List Value → Shared → Prop}
    (hop : ∀ x ∈ xs, Op g n σ [x] (fun us => call (.ref f) us) (fun P δ v => g.Sees P δ v x) σ) (hz : xs.length ≤ 16777216) (hA : AOk A (n + 2) R env) (hcl : oL.cls = .type "list") (hdl : oL.data = .seq vs.toArray nL)
    (I' : Inv g R P δ env ρ σ s.heap) (hf : ∀ b ∈ [m, T, I], Free R P δ env b) (D : MapAt s.heap m T I f l vs 0) (hvs : g.SeesL P δ vs xs) (hPl : P l oL)
    (hQ : ∀ us P' δ' h' tk', (∀ b o, P b o → P' b o) → δ <+: δ' → Inv g R P' δ' env ρ σ h' → g.SeesL P' δ' us xs → Q us { s with heap := h', toks := tk' }) :
    wpAny (model g.prog g.w) A (collect (.ref m)) Q NoE s := by
  have hT : s.TypeIs (.ref m) "map" := ⟨_, D.map, rfl⟩
  have hmlt := Heap.lt_size D.map
  have hTlt := Heap.lt_size D.tup
  have hIlt : I < s.heap.objs.size := by obtain ⟨o, e, _⟩ := D.it; exact Heap.lt_size e
  have hSm : s.heap.objs.size ∉ [m, T, I] := fun hm => by
    simp at hm
    rcases hm with e | e | e
    · exact Nat.lt_irrefl _ (e ▸ hmlt)
    · exact Nat.lt_irrefl _ (e ▸ hTlt)
    · exact Nat.lt_irrefl _ (e ▸ hIlt)
  unfold collect
  refine wpAny_bind (wpAny_runValue (codeAny_builtin F.entry_proto_collect ?_))
  rw [Around.under_plainId F.plain_proto_collect _]
  show wpAny _ A.in1 (newList [] >>= fun l => again (.builtin "list.__iadd__" ⟨[l, .ref m], []⟩)) _ _ s
  refine wpAny_bind (wpAny_newObj_type ?_)
  refine wpAny_pure ⟨plainId_quiet F.plain_list_iadd _, codeAny_builtin F.entry_list_iadd ?_⟩
  rw [Around.under_plainId F.plain_list_iadd _]
  have keep : ∀ b o, s.heap.get? b = some o → (s.heap.push { cls := .type "list", data := .seq ([] : List Value).toArray }).get? b = some o := fun b o e => Heap.get?_push_of_some _ e
  have D₁ : MapAt (s.heap.push { cls := .type "list", data := .seq ([] : List Value).toArray }) m T I f l vs 0 := ⟨keep _ _ D.map, keep _ _ D.tup, let ⟨o, e, r⟩ := D.it; ⟨o, keep _ _ e, r⟩, D.lst.push _⟩
  have hT₁ : ({ s with heap := s.heap.push { cls := .type "list", data := .seq ([] : List Value).toArray } } : Shared).TypeIs (.ref m) "map" := ⟨_, D₁.map, rfl⟩
  show wpAny _ A.in1 (Builtin.List.listExtendWith (.ref s.heap.objs.size) (.ref m) (.ref s.heap.objs.size)) _ _ _
  unfold Builtin.List.listExtendWith
  refine wpAny_bind (wpAny_typeOf hT₁ ?_)
  have h1 : Builtin.List.listSameRef (.ref s.heap.objs.size) (.ref m) = false := by
    have : s.heap.objs.size ≠ m := fun e => hSm (by rw [e]; simp)
    simp [Builtin.List.listSameRef, this]
  have h2 : (Value.type "map" == Value.type "list") = false := by decide
  have h3 : (Value.type "map" == Value.type "tuple") = false := by decide
  simp only [h1, h2, h3, Bool.or_false, Bool.false_eq_true, if_false]
  refine wpAny_bind (wpAny_mono (map_iter D₁ (Q := fun v s' => v = .ref m ∧ s' = _) ⟨rfl, rfl⟩) (fun v s' hv => ?_) fun _ _ e => e.elim)
  obtain ⟨rfl, rfl⟩ := hv
  refine wpAny_bind (wpAny_holding ?_)
  unfold Builtin.List.listLengthHint
  refine wpAny_bind (wpAny_specialOf hT₁ map_nolen ?_)
  show wpAny _ A.in1 (specialOf (Value.ref m) (Str.ofString "__length_hint__") >>= _) _ _ _
  refine wpAny_bind (wpAny_specialOf hT₁ map_nohint ?_)
  refine wpAny_pure ?_
  have hSo := Heap.get?_push_size s.heap (o := { cls := .type "list", data := .seq ([] : List Value).toArray }) rfl
  generalize hH : s.heap.push { cls := .type "list", data := .seq ([] : List Value).toArray } = H at *
  simp only [Bool.true_or, if_true]
  refine wpAny_bind (wpAny_rule (wpAny_bind ?_))
  show wpAny _ A.in1 (updateSeq s.heap.objs.size (·.push .none) >>= fun _ => updateSeq s.heap.objs.size (·.pop)) _ _ _
  refine wpAny_bind (wpAny_updateSeq hSo rfl ?_)
  have hS2 := Heap.get?_update_self (Obj.mapSeq (·.push Value.none)) hSo rfl
  refine wpAny_updateSeq hS2 rfl ?_
  have hS3 : ((H.update s.heap.objs.size (Obj.mapSeq (·.push Value.none))).update s.heap.objs.size (Obj.mapSeq (·.pop))).get? s.heap.objs.size = some { cls := .type "list", data := .seq ([] : List Value).toArray 2 } := Heap.get?_update_self (Obj.mapSeq (·.pop)) hS2 rfl
  have sb : ∀ b, b ≠ s.heap.objs.size → ((H.update s.heap.objs.size (Obj.mapSeq (·.push Value.none))).update s.heap.objs.size (Obj.mapSeq (·.pop))).get? b = H.get? b := fun b hb => (Heap.get?_update_other _ _ (Ne.symm hb)).trans (Heap.get?_update_other _ _ (Ne.symm hb))
  generalize (H.update s.heap.objs.size (Obj.mapSeq (·.push Value.none))).update s.heap.objs.size (Obj.mapSeq (·.pop)) = H3 at hS3 sb ⊢
  have fS := I'.free (get_size_none s.heap)
  have I3 : Inv g R P δ env ρ σ H3 := (I'.grows keep).keeps fun b o k e => (sb b (fS.keep k)).trans e
  have ne : ∀ b ∈ [m, T, I], b ≠ s.heap.objs.size := fun b hb e => hSm (e ▸ hb)
  have D3 : MapAt H3 m T I f l vs 0 := ⟨(sb m (ne m (by simp))).trans D₁.map, (sb T (ne T (by simp))).trans D₁.tup, let ⟨o, e, r⟩ := D₁.it; ⟨o, (sb I (ne I (by simp))).trans e, r⟩, ⟨oL, I3.keepP _ _ hPl, hcl, nL, hdl⟩⟩
  have loop := map_loop (Rr := fun r s' => match r with
      | .ok (.ret v) => v = .ref s.heap.objs.size ∧ ∃ P' δ' h' tk' acc' c', s' = { s with heap := h', toks := tk' } ∧ (∀ b o, P b o → P' b o) ∧ δ <+: δ' ∧ Inv g R P' δ' env ρ σ h' ∧ h'.get? s.heap.objs.size = some { cls := .type "list", data := .seq (acc' : List Value).toArray c' } ∧ g.SeesL P' δ' acc' xs
      | _ => False) (res := .ref s.heap.objs.size) hop hz hA hSm hcl hdl xs.length 0 { s with heap := H3 } P δ [] 2 rfl (Nat.zero_le _) I3
      (fun b hb => by rcases List.mem_cons.mp hb with rfl | hb; exact fS; exact hf b hb) D3 hS3 .nil hvs hPl
      fun P' δ' h' tk' acc' c' le pr I'' hS'' hs'' => ⟨rfl, P', δ', h', tk', acc', c', rfl, le, pr, I'', hS'', hs''⟩
  refine wpAny_pure ⟨plainId_quiet F.plain_extend_loop _, codeAny_mono loop fun r s' hr => ?_⟩
  cases r with
  | error e => exact hr.elim
  | ok fl =>
    cases fl with
    | ret v =>
      obtain ⟨rfl, P', δ', h', tk', acc', c', rfl, le, pr, I'', hS'', hs''⟩ := hr
      show wpAny _ A (load s.heap.objs.size >>= _) _ _ _
      refine wpAny_bind (wpAny_load hS'' ?_)
      exact wpAny_pure (by simpa using hQ acc' P' δ' h' tk' le pr I'' hs'')
    | _ => exact hr.elim

/-- tuple(map(f, xs)), where f gives each thing back as it is -/
theorem ev_tmap {pt pm' pf pos pos' : Pos} {f : Str} {e : Expr} {xs : List V} {m : Nat} (h1 : Ev g sc n e ρ σ (.list xs) σ₁) (hF : ∀ x ∈ xs, Fn g m f [x] σ₁ x σ₁) (hne : xs ≠ []) (hz : xs.length ≤ 16777216) (hm : m + 5 ≤ n := by decide) (he : isStar e = false := by rfl)
    (ht : isGlob sc "tuple" = true := by decide +kernel) (hmap : isGlob sc "map" = true := by decide +kernel) (hf : isGlob sc f = true := by decide +kernel) (hb : g.mg "tuple" = none := by first | assumption | exact (‹Has g _›).blt _ (by decide +kernel)) (hb' : g.mg "map" = none := by first | assumption | exact (‹Has g _›).blt _ (by decide +kernel)) :
    Ev g sc n (.Call (.Name "tuple" pt) [.Call (.Name "map" pm') [.Name f pf, e] [] pos'] [] pos) ρ σ (.tup xs) σ₁ := .mk fun env A R P δ s Q O hA I h => by
  obtain ⟨x0, hx0⟩ := List.exists_mem_of_ne_nil xs hne
  obtain ⟨fa, fo, ffd, ef, eo, ed, _⟩ := hF x0 hx0
  have hop : ∀ x ∈ xs, Op g m σ₁ [x] (fun us => call (.ref fa) us) (fun P δ v => g.Sees P δ v x) σ₁ := fun x hx => by
    obtain ⟨a', o', fd', e1, _, _, e4⟩ := hF x hx
    rw [ef] at e1; cases e1
    exact e4
  have hp1 : noStar [Expr.Call (.Name "map" pm') [.Name f pf, e] [] pos'] = true := rfl
  have hp2 : noStar [Expr.Name f pf, e] = true := by unfold noStar; rw [List.all_cons, List.all_cons, he]; rfl
  refine wpAny_Call_NameR (wp_builtin O I ht hb (v := .type "tuple") (by decide +kernel) (by decide) (PySem.callWith_type (noStar_any hp1) (evalArgs_first (noStar_first hp1) ?_)))
  rw [starEach_cons (by rfl)]
  refine spliced_cons ?_
  refine wpAny_Call_NameR (wp_builtin O I hmap hb' (v := .type "map") (by decide +kernel) (by decide) (PySem.callWith_type (noStar_any hp2) (evalArgs_first (noStar_first hp2) ?_)))
  refine (evl_cons (ev_fn hf ef) (evl_cons h1 evl_nil he) rfl).run env A R P δ s _ O hA I fun us P₁ δ₁ hh₁ tk₁ le₁ pr₁ I₁ s₁ => ?_
  obtain ⟨v, u, rfl, sv, su⟩ := s₁.two
  obtain ⟨a', rfl, ea'⟩ := sv.tells
  rw [ef] at ea'; cases ea'
  obtain ⟨l, oL, vs, nL, rfl, hPl, hcl, hdl, hvs⟩ := su.tells
  have hlist : hh₁.IsList l vs.toArray := ⟨oL, I₁.keepP _ _ hPl, hcl, nL, hdl⟩
  refine callType_new called_map (by decide) (map_call_2 _ _) (map_newcall_2 _ _) (fun obj => F.args_object_init_3 obj _ _) entry_map_new (meets_map_new fa l vs.toArray) ⟨hlist, ?_⟩
  have z1 : (hh₁.push { cls := .type "list_iterator", data := .fields #[.ref l, .int 0 0] }).objs.size = hh₁.objs.size + 1 := Heap.size_push ..
  have z2 : ((hh₁.push { cls := .type "list_iterator", data := .fields #[.ref l, .int 0 0] }).push { cls := .type "tuple", data := .seq #[.ref hh₁.objs.size] }).objs.size = hh₁.objs.size + 2 := by rw [Heap.size_push, z1]
  have gm : (mapH hh₁ fa l).get? ((hh₁.push { cls := .type "list_iterator", data := .fields #[.ref l, .int 0 0] }).push { cls := .type "tuple", data := .seq #[.ref hh₁.objs.size] }).objs.size = some _ := Heap.get?_push_size _ rfl
  have gt : (mapH hh₁ fa l).get? (hh₁.push { cls := .type "list_iterator", data := .fields #[.ref l, .int 0 0] }).objs.size = some _ := Heap.get?_push_of_some _ (Heap.get?_push_size _ rfl)
  have gi : (mapH hh₁ fa l).get? hh₁.objs.size = some _ := Heap.get?_push_of_some _ (Heap.get?_push_of_some _ (Heap.get?_push_size _ rfl))
  have keep : ∀ b o, hh₁.get? b = some o → (mapH hh₁ fa l).get? b = some o := fun b o e => Heap.get?_push_of_some _ (Heap.get?_push_of_some _ (Heap.get?_push_of_some _ e))
  rw [z2] at gm
  rw [z1] at gm gt
  show _ ∧ _
  rw [z2]
  refine ⟨⟨_, gm, rfl⟩, ?_⟩
  refine spliced_nil ?_
  have D : MapAt (mapH hh₁ fa l) (hh₁.objs.size + 2) (hh₁.objs.size + 1) hh₁.objs.size fa l vs 0 := ⟨gm, gt, ⟨_, gi, rfl, rfl⟩, ⟨oL, keep _ _ (I₁.keepP _ _ hPl), hcl, nL, hdl⟩⟩
  have I₂ := I₁.grows keep
  have hfr : ∀ b ∈ [hh₁.objs.size + 2, hh₁.objs.size + 1, hh₁.objs.size], Free R P₁ δ₁ env b := fun b hb => by
    simp at hb
    rcases hb with rfl | rfl | rfl
    · exact I₁.free (get_ge hh₁ (Nat.le_add_right _ 2))
    · exact I₁.free (get_ge hh₁ (Nat.le_add_right _ 1))
    · exact I₁.free (get_size_none hh₁)
  have hA4 : AOk A.in1.in1 (m + 2) R env := ((hA.less (show m + 2 + 1 + 1 ≤ n by omega)).in1).in1
  refine callType_codes (Q₁ := fun obj s₁ => s₁.TypeIs obj "tuple" ∧ Q obj s₁) F.called_tuple (F.typeCall_tuple_1 _) F.entry_object_init
    (code_tuple_new_of (K := fun us s' => ∃ P' δ' h' tk', s' = { s with heap := h', toks := tk' } ∧ (∀ b o, P₁ b o → P' b o) ∧ δ₁ <+: δ' ∧ Inv g R P' δ' env ρ σ₁ h' ∧ g.SeesL P' δ' us xs) ⟨_, gm, rfl⟩ (fun Q' hk => ?_) fun us s' hk => ?_) fun obj s₁ h₁ => ?_
  · exact wp_collect_map (s := { s with heap := mapH hh₁ fa l, toks := tk₁ }) hop hz hA4 hcl hdl I₂ hfr D hvs hPl fun us P' δ' h' tk' le pr I' hs => hk us _ ⟨P', δ', h', tk', rfl, le, pr, I', hs⟩
  · obtain ⟨P', δ', h', tk', rfl, le, pr, I', hs⟩ := hk
    refine ⟨by rw [hs.length, sizeLine_eq]; exact hz, ⟨_, Heap.get?_push_size _ rfl, rfl⟩, ?_⟩
    exact h _ _ δ' (h'.push _) tk' (fun b o z => pin_le b o (le b o (le₁ b o z))) (pr₁.trans pr) (I'.pushPin _) (.mkTup pin_at rfl rfl (hs.mono pin_le (List.prefix_refl _)))
  · exact ⟨h₁.1, F.args_object_init_2 obj _, object_init_meets F.called_tuple.init.lookup F.called_tuple.made (by decide) g.prog g.w A.in1 _ s₁ ⟨h₁.1, rfl, h₁.2⟩⟩
end
end Mine
end
section
open PySem PySem.W PyProof.Rows PySem.Calls PySem.SeqAt
set_option Elab.async false
set_option linter.unusedVariables false
set_option maxRecDepth 100000
namespace Mine
section
variable {g : Glo} {R : RS} {P P' : PS} {δ δ' : List Addr} {env cenv : Env} {ρ ρ' ρc ρ₁ ρ₂ : Loc} {σ σ' σ₁ σ₂ σ₃ : List MO} {h h' : Heap} {sc : Scope} {n : Nat} {Φ : Out → Prop} {rest : List Stmt}

/-- frames' slots may change -/
theorem Inv.slots (I : Inv g R P δ env ρ σ h) {S : List Addr} (hs : Heap.SlotsOnly S h h') (hS : ∀ b ∈ S, b = env.locals ∨ ∃ o, R.up b o) : Inv g R P δ env ρ σ h' := by
  have sL : slot env env.locals := .inl rfl
  have nex : ∀ b o, R.ex b o → b ∉ S := fun b o r hm => by
    rcases hS b hm with rfl | ⟨o', u⟩
    · exact I.offR _ o sL (.inl r)
    · exact I.part b o o' r u
  have nP : ∀ b o, P b o → b ∉ S := fun b o p hm => by
    rcases hS b hm with rfl | ⟨o', u⟩
    · exact I.offP _ o sL p
    · obtain ⟨q, hq⟩ := I.sep b o o' p (.inr u)
      exact I.part b q o' (I.base b q hq) u
  have nD : ∀ b ∈ δ, b ∉ S := fun b d hm => by
    rcases hS b hm with rfl | ⟨o', u⟩
    · exact I.offD _ sL d
    · exact I.dR b o' d (.inr u)
  have nC : ∀ x c, env.kindOf x = some .cell → env.cells.lookup x = some c → c ∉ S := fun x c hx hc hm => by
    rcases hS c hm with rfl | ⟨o', u⟩
    · exact I.nloc x hx hc
    · exact I.offR c o' (.inr ⟨x, hx, hc⟩) (.inr u)
  refine { I with keepR := fun b o r => (hs.2.1 b (nex b o r)).trans (I.keepR b o r), keepU := fun b o u => ?_, keepP := fun b o p => (hs.2.1 b (nP b o p)).trans (I.keepP b o p), loc := ?_, cel := fun x hx => ?_, objs := fun i a o ha ho => ?_ }
  · obtain ⟨sl, e⟩ := I.keepU b o u
    obtain ⟨sl', e'⟩ := hs.2.2 b _ e
    exact ⟨sl', e'⟩
  · obtain ⟨m, ⟨o, es, ep, ho, hd, r⟩, k⟩ := I.loc
    obtain ⟨sl, e⟩ := hs.2.2 _ o ho
    refine ⟨m, ⟨_, es, ep, e, hd, r⟩, fun x y hx => ?_⟩
    obtain ⟨v, hv, hl⟩ := k x y hx
    refine ⟨v, hv, ?_⟩
    rcases hl with hl | ⟨hk, c, hc, o', ho', hd'⟩ | hl
    · exact .inl hl
    · exact .inr (.inl ⟨hk, c, hc, o', (hs.2.1 c (nC x c hk hc)).trans ho', hd'⟩)
    · exact .inr (.inr hl)
  · obtain ⟨c, ov, hc, o', ho', hd'⟩ := I.cel x hx
    exact ⟨c, ov, hc, o', (hs.2.1 c (nC x c hx hc)).trans ho', hd'⟩
  · have hm : a ∈ δ := List.mem_of_getElem? ha
    exact (I.objs i a o ha ho).mono (fun _ _ z => z) (List.prefix_refl _) fun q hq => (hs.2.1 a (nD a hm)).trans hq

/-- an exception that nobody else knows: its class, its traceback's head, its context -/
structure Exc (R : RS) (P : PS) (δ : List Addr) (env : Env) (h : Heap) (e : Addr) (cls : String) (tb ctx : Value) : Prop where
  free : Free R P δ env e
  there : ∃ oe vs, h.get? e = some oe ∧ oe.cls = .type cls ∧ oe.data = .fields vs ∧ vs.size = 6 ∧ vs[1]? = some tb ∧ vs[2]? = some ctx
/-- a traceback's head, and where it flies -/
structure Tbk (R : RS) (P : PS) (δ : List Addr) (env : Env) (h : Heap) (e T : Addr) (x : Value) : Prop where
  free : Free R P δ env T
  ne : T ≠ e
  there : ∃ oT ts, h.get? T = some oT ∧ oT.data = .fields ts ∧ ts[3]? = some x
/-- the stack of frames -/
structure Stk (A : Around) (R : RS) (env : Env) : Prop where
  top : ∃ e0 outer L, A.frames = some (e0 :: outer) ∧ e0.frame = some L ∧ env.frame = some L
  all : ∀ l, A.frames = some l → ∀ e ∈ l, e.scope.kind ≠ .module ∧ ∃ L, e.frame = some L ∧ (L = env.locals ∨ ∃ o, R.up L o ∧ ∀ vs, o.data ≠ .fields vs)
theorem AOk.stk {A : Around} (hA : AOk A n R env) : Stk A R env := by
  obtain ⟨l, L, h1, h2, h3, ⟨e0, outer, rfl, h4⟩, h5⟩ := hA.stack
  refine ⟨⟨e0, outer, L, h1, h4, h2⟩, fun l hl e he => ?_⟩
  rw [h1] at hl; cases hl
  exact h5 e he
theorem Stk.mark {A : Around} (S : Stk A R env) (v : Option Value) : Stk (A.mark v) R env := ⟨S.top, S.all⟩
/-- the frame where it flies -/
noncomputable def flg (env : Env) : Value := env.frame.elim .none fun f => rawInt f
theorem flg_eq {L : Addr} (h : env.frame = some L) : flg env = rawInt L := by unfold flg; rw [h]; rfl

noncomputable def noHeap : Heap := {}
theorem Inv.funFrames (I : Inv g R P δ env ρ σ h) : ∀ {l : List Env}, (∀ e ∈ l, e.scope.kind ≠ .module ∧ ∃ L, e.frame = some L ∧ (L = env.locals ∨ ∃ o, R.up L o ∧ ∀ vs, o.data ≠ .fields vs)) → h.FunFrames noHeap l
  | [], _ => trivial
  | e :: l, k => by
    obtain ⟨h1, L, h2, h3⟩ := k e List.mem_cons_self
    refine ⟨h1, ⟨L, ?_⟩, I.funFrames fun e' he => k e' (List.mem_cons_of_mem _ he)⟩
    rcases h3 with rfl | ⟨o, h3, h4⟩
    · obtain ⟨m, ⟨o, es, ep, ho, hd, _⟩, _⟩ := I.loc
      exact ⟨o, h2, rfl, ho, fun vs c => by rw [hd] at c; cases c⟩
    · obtain ⟨sl, e⟩ := I.keepU L o h3
      exact ⟨_, h2, rfl, e, h4⟩
theorem frames_in {l : List Env} (k : ∀ e ∈ l, e.scope.kind ≠ .module ∧ ∃ L, e.frame = some L ∧ (L = env.locals ∨ ∃ o, R.up L o ∧ ∀ vs, o.data ≠ .fields vs)) : ∀ b ∈ l.filterMap (·.frame), b = env.locals ∨ ∃ o, R.up b o := fun b hb => by
  obtain ⟨e, he, hf⟩ := List.mem_filterMap.mp hb
  obtain ⟨_, L, h2, h3⟩ := k e he
  rw [h2] at hf; cases hf
  rcases h3 with h3 | ⟨o, h3, _⟩
  · exact .inl h3
  · exact .inr ⟨o, h3⟩
theorem Free.notin {a : Addr} (f : Free R P δ env a) {S : List Addr} (hS : ∀ b ∈ S, b = env.locals ∨ ∃ o, R.up b o) : a ∉ S := fun hm => by
  rcases hS a hm with rfl | ⟨o, u⟩
  · exact f.s (.inl rfl)
  · exact f.r o (.inr u)

section
variable {M : Model} {A : Around} {E : Value → Shared → Prop} {s : Shared} {e T : Addr} {cls : String} {tb ctx x : Value}

theorem wp_frameOf {base : Heap} {e0 : Env} {outer : List Env} {L : Addr} {Q : Value → Shared → Prop} (hfr : A.frames = some (e0 :: outer)) (hl : s.heap.FunFrames base (e0 :: outer))
    (h0 : e0.frame = some L) (hf : env.frame = some L) (h : ∀ h', Heap.SlotsOnly ((e0 :: outer).filterMap (·.frame)) s.heap h' → Q (.ref L) { s with heap := h' }) : wpAny M A (PySem.frameOf env) Q E s := by
  unfold PySem.frameOf
  refine wpAny_bind (wpAny_frameEnvs hfr ?_)
  have hdw : ((e0 :: outer).dropWhile fun x => x.frame != env.frame) = e0 :: outer := by simp [List.dropWhile, h0, hf]
  rw [hdw]
  unfold frameObject
  refine wpAny_bind (wpAny_bind (wpAny_readyFrames_fun hl fun h₁ hs₁ => wpAny_pure ?_))
  rw [h0]
  exact wpAny_pure (h h₁ hs₁)
/-- an entry is laid at the traceback's head -/
theorem wp_entry (S : Stk A R env) {L : Addr} (hL : env.frame = some L) (I : Inv g R P δ env ρ σ s.heap) (X : Exc R P δ env s.heap e cls tb ctx) {head : Value} {hadNext : Bool} {Q : Unit → Shared → Prop}
    (k : ∀ h' T, Inv g R P δ env ρ σ h' → Exc R P δ env h' e cls (.ref T) ctx → Tbk R P δ env h' e T (rawInt L) → Q () { s with heap := h' }) :
    wpAny M A (do let a ← frameOf env; let pl ← entryPlaceOf L hadNext; let b ← EntryCells.newEntry head a .none (rawInt L) .none pl; setField (.ref e) 1 b) Q E s := by
  obtain ⟨e0, outer, L', hfr, h0, hL'⟩ := S.top
  obtain rfl : L = L' := Option.some.inj (hL.symm.trans hL')
  have hall := S.all _ hfr
  refine wpAny_bind (wp_frameOf hfr (I.funFrames hall) h0 hL fun h₁ hs₁ => ?_)
  have hS := frames_in hall
  have I₁ := I.slots hs₁ hS
  obtain ⟨oe, vs, he, hc, hd, hz, h1, h2⟩ := X.there
  have he₁ : h₁.get? e = some oe := (hs₁.2.1 e (X.free.notin hS)).trans he
  refine wpAny_bind (wpAny_entryPlaceOf fun pl hpl => ?_)
  unfold EntryCells.newEntry newFields
  refine wpAny_bind (wpAny_newObj_type ?_ (hpl.sizeOk5 _ _ _ _ _))
  generalize hoT : ({ cls := .type "traceback", dict := none, data := .fields ([head, Value.ref L, .none, rawInt L, .none] ++ (if pl.isEmpty then List.replicate 6 Value.none else pl)).toArray } : Obj) = oT
  have hoTd : oT.data = .fields ([head, Value.ref L, .none, rawInt L, .none] ++ (if pl.isEmpty then List.replicate 6 Value.none else pl)).toArray := by rw [← hoT]
  have he₂ := Heap.get?_push_of_some (h := h₁) oT he₁
  refine wpAny_setField he₂ hd (by omega) ?_
  have hn := get_size_none h₁
  have fT := I₁.free hn
  have hTe : h₁.objs.size ≠ e := Nat.ne_of_gt (Heap.lt_size he₁)
  have I₂ := I₁.grows fun b o q => Heap.get?_push_of_some (h := h₁) oT q
  have I₃ := I₂.sameBut X.free (Heap.SameBut.update _ e (Obj.mapFields (·.setIfInBounds 1 (Value.ref h₁.objs.size))))
  have hd₃ := Obj.data_mapFields hd (·.setIfInBounds 1 (Value.ref h₁.objs.size))
  refine k _ h₁.objs.size I₃ ⟨X.free, _, _, Heap.get?_update_self _ he₂ (Obj.isFreed_of_fields hd₃), ?_, hd₃, by simp [hz], by simp [hz], ?_⟩ ⟨fT, hTe, oT, _, ?_, hoTd, by simp⟩
  · rw [Obj.cls_mapFields]; exact hc
  · rw [Array.getElem?_setIfInBounds]; simpa using h2
  · rw [Heap.get?_update_other _ _ (Ne.symm hTe)]
    exact Heap.get?_push_size h₁ (by subst hoT; rfl)
/-- where it flies is set -/
theorem wp_setT (I : Inv g R P δ env ρ σ s.heap) (X : Exc R P δ env s.heap e cls (.ref T) ctx) (Y : Tbk R P δ env s.heap e T x) (y : Value) {Q : Unit → Shared → Prop}
    (k : ∀ h', Inv g R P δ env ρ σ h' → Exc R P δ env h' e cls (.ref T) ctx → Tbk R P δ env h' e T y → Q () { s with heap := h' }) : wpAny M A (setField (.ref T) 3 y) Q E s := by
  obtain ⟨oT, ts, hT, hd, h3⟩ := Y.there
  have hz := (Array.getElem?_eq_some_iff.mp h3).1
  refine wpAny_setField hT hd hz ?_
  have hd' := Obj.data_mapFields hd (·.setIfInBounds 3 y)
  obtain ⟨oe, vs, he, hc, hde, r⟩ := X.there
  refine k _ (I.sameBut Y.free (Heap.SameBut.update ..)) ⟨X.free, oe, vs, (Heap.get?_update_other _ _ Y.ne).trans he, hc, hde, r⟩ ⟨Y.free, Y.ne, _, _, Heap.get?_update_self _ hT (Obj.isFreed_of_fields hd'), hd', by simp [hz]⟩
theorem wp_flight (I : Inv g R P δ env ρ σ s.heap) (X : Exc R P δ env s.heap e cls (.ref T) ctx) (Y : Tbk R P δ env s.heap e T x) (f : Option Addr) {Q : Unit → Shared → Prop}
    (k : ∀ h', Inv g R P δ env ρ σ h' → Exc R P δ env h' e cls (.ref T) ctx → Tbk R P δ env h' e T (f.elim .none fun f => rawInt f) → Q () { s with heap := h' }) : wpAny M A (setFlight (.ref e) f) Q E s := by
  obtain ⟨oe, vs, he, hc, hd, hz, h1, h2⟩ := X.there
  unfold setFlight
  refine wpAny_bind (wpAny_field he hd h1 ?_)
  rw [if_pos (show (Value.ref T != Value.none) = true from by simp)]
  exact wp_setT I X Y _ k
/-- a frame is noted -/
theorem wp_note (S : Stk A R env) (I : Inv g R P δ env ρ σ s.heap) (X : Exc R P δ env s.heap e cls tb ctx) (Y : tb = .none ∨ ∃ T x, tb = .ref T ∧ Tbk R P δ env s.heap e T x ∧ (x = .none ∨ x = flg env)) {Q : Unit → Shared → Prop}
    (k : ∀ h' T, Inv g R P δ env ρ σ h' → Exc R P δ env h' e cls (.ref T) ctx → Tbk R P δ env h' e T (flg env) → Q () { s with heap := h' }) : wpAny M A (noteFrame (.ref e) env) Q E s := by
  obtain ⟨oe, vs, he, hc, hd, hz, h1, h2⟩ := X.there
  obtain ⟨_, _, L, _, _, hL⟩ := S.top
  rw [flg_eq hL] at k Y
  unfold noteFrame
  simp only [hL]
  refine wpAny_bind (wpAny_field he hd h1 ?_)
  rcases Y with rfl | ⟨T, x, rfl, Y, rfl | rfl⟩
  · rw [if_neg (by decide)]
    exact wp_entry S hL I X k
  · rw [if_pos (show (Value.ref T != Value.none) = true from by simp)]
    obtain ⟨oT, ts, hT, hdT, h3⟩ := Y.there
    refine wpAny_bind (wpAny_field hT hdT h3 ?_)
    rw [if_neg (show ¬ ((Value.none == rawInt L) = true) from by simp [rawInt])]
    refine wpAny_bind (wp_setT I X Y .none fun h₁ I₁ X₁ Y₁ => ?_)
    exact wp_entry (s := { s with heap := h₁ }) S hL I₁ X₁ k
  · rw [if_pos (show (Value.ref T != Value.none) = true from by simp)]
    obtain ⟨oT, ts, hT, hdT, h3⟩ := Y.there
    refine wpAny_bind (wpAny_field hT hdT h3 ?_)
    rw [if_pos (show (rawInt L == rawInt L) = true from by first | (simp; done) | exact beq_self_eq_true _)]
    exact wpAny_pure (k s.heap T I X Y)
/-- an exception comes back from an inner activation, or is passed on -/
theorem wp_back {E' : Value → Shared → Prop} (I : Inv g R P δ env ρ σ s.heap) (X : Exc R P δ env s.heap e cls (.ref T) ctx) (Y : Tbk R P δ env s.heap e T x)
    (k : ∀ h', Inv g R P δ env ρ σ h' → Exc R P δ env h' e cls (.ref T) ctx → Tbk R P δ env h' e T (flg env) → E' (.ref e) { s with heap := h' }) : cameBackBy M A env E' (.ref e) s := by
  obtain ⟨oe, vs, he, hc, hd, hz, h1, h2⟩ := X.there
  unfold cameBackBy
  refine wpAny_bind (wpAny_field he hd h1 ?_)
  rw [if_neg (by simp)]
  exact wp_flight I X Y _ k
theorem wp_passOn {α : Type} {what : String} {Q : α → Shared → Prop} (I : Inv g R P δ env ρ σ s.heap) (X : Exc R P δ env s.heap e cls (.ref T) ctx) (Y : Tbk R P δ env s.heap e T x)
    (k : ∀ h', Inv g R P δ env ρ σ h' → Exc R P δ env h' e cls (.ref T) ctx → Tbk R P δ env h' e T (flg env) → E (.ref e) { s with heap := h' }) : wpAny M A (PySem.passOn what (.ref e) env : Sem α) Q E s := by
  obtain ⟨oe, vs, he, hc, hd, hz, h1, h2⟩ := X.there
  unfold PySem.passOn
  refine wpAny_bind (wpAny_field he hd h1 ?_)
  rw [if_neg (by simp)]
  exact wpAny_bind (wp_flight I X Y _ fun h' I' X' Y' => wpAny_throw (k h' I' X' Y'))
theorem wp_leaving (S : Stk A R env) (I : Inv g R P δ env ρ σ s.heap) (X : Exc R P δ env s.heap e cls tb ctx) (Y : tb = .none ∨ ∃ T x, tb = .ref T ∧ Tbk R P δ env s.heap e T x ∧ (x = .none ∨ x = flg env)) {Q : Unit → Shared → Prop}
    (k : ∀ h' T, Inv g R P δ env ρ σ h' → Exc R P δ env h' e cls (.ref T) ctx → Tbk R P δ env h' e T .none → Q () { s with heap := h' }) : wpAny M A (leaving env (.ref e)) Q E s := by
  unfold leaving
  refine wpAny_bind (wp_note S I X Y fun h₁ T I₁ X₁ Y₁ => ?_)
  exact wp_flight (s := { s with heap := h₁ }) I₁ X₁ Y₁ none fun h₂ I₂ X₂ Y₂ => k h₂ T I₂ X₂ Y₂
end
end
end Mine
end
section
open PySem PySem.W PyProof.Rows PySem.Calls PySem.SeqAt
set_option Elab.async false
set_option linter.unusedVariables false
set_option maxRecDepth 100000
namespace Mine
theorem entry_unchain : entryFor table "proto.unchain" = some Builtin.«proto.unchain» := entryFor_of_tree (by kernel_rfl)
theorem plain_unchain : plainId "proto.unchain" = true := by decide +kernel
section
variable {prog : Program} {w : World} {A : Around} {E : Value → Shared → Prop} {s : Shared} {env : Env}
/-- an exception, new, is raised while another is at hand -/
theorem raiseNew_while {α : Type} {e e₁ : Addr} {o₁ : Obj} {vs₁ : Array Value} {o : Obj} {vs : Array Value} {Q : α → Shared → Prop} (hh : A.handled = some (.ref e₁)) (hne : e₁ ≠ e) (h1 : s.heap.get? e₁ = some o₁) (hd1 : o₁.data = .fields vs₁) (hc : vs₁[2]? = some .none)
    (he : s.heap.get? e = some o) (hd : o.data = .fields vs) (hz : 2 < vs.size)
    (h : E (.ref e) { s with heap := s.heap.update e (Obj.mapFields (·.setIfInBounds 2 (.ref e₁))) }) : wpAny (model prog w) A (raiseNew (.ref e) : Sem α) Q E s := by
  unfold raiseNew
  refine wpAny_bind (wpAny_handled ?_)
  rw [hh]
  dsimp only
  rw [if_pos (by simpa using hne)]
  refine wpAny_bind (wpAny_holding (wpAny_runValue (codeAny_builtin entry_unchain ?_)))
  rw [Around.under_plainId plain_unchain _]
  unfold Builtin.«proto.unchain»
  refine wpAny_bind (wpAny_field h1 hd1 hc ?_)
  rw [if_pos (by decide)]
  refine wpAny_pure ?_
  refine wpAny_bind ?_
  unfold updateField
  refine wpAny_bind (wpAny_load he ?_)
  rw [hd]
  dsimp only
  rw [if_pos hz]
  exact wpAny_update he (wpAny_throw h)
theorem raise_from_none {cls : String} (F : ExcRaiseFacts cls) {x c : Sem Value} {Q : Flow → Shared → Prop} {e₁ : Addr} (hh : A.handled = some (.ref e₁))
    (h : wpAny (model prog w) A x (fun v s₁ => ∃ e t o₁ vs₁, v = .ref e ∧ s₁.heap.get? e = some { cls := .type cls, data := .fields #[.ref t, .none, .none, .none, .bool false, .none] } ∧ e₁ ≠ e ∧ s₁.heap.get? e₁ = some o₁ ∧ o₁.data = .fields vs₁ ∧ vs₁[2]? = some .none ∧
      wpAny (model prog w) A c (fun u s₂ => u = .none ∧ s₂ = s₁ ∧ ∀ h', Heap.SameBut e s₁.heap h' → h'.get? e = some { cls := .type cls, data := .fields #[.ref t, .none, .ref e₁, .none, .bool true, .none] } → E (.ref e) { s₁ with heap := h' }) E s₁) E s) :
    wpAny (model prog w) A (raiseStmt env (some x) (some c)) Q E s := by
  unfold raiseStmt
  refine wpAny_bind (wpAny_mono h (fun v s₁ h₁ => ?_) fun _ _ x => x)
  obtain ⟨e, t, o₁, vs₁, rfl, he, hne, hg1, hd1, hc1, h₁⟩ := h₁
  refine wpAny_bind (wpAny_holding (wpAny_mono h₁ (fun u s₂ h₂ => ?_) fun _ _ x => x))
  obtain ⟨rfl, rfl, hE⟩ := h₂
  refine wpAny_bind (wpAny_pure ?_)
  have hsub := F.isExc
  have hmeta := F.plainMeta
  obtain ⟨hp, g, d, tk, os⟩ := s₂
  repeat (first | refine wpAny_loadPart he ?_ | wp_step)
  have u1 := update_eq (Obj.mapFields (·.setIfInBounds 3 Value.none)) he (o' := { cls := .type cls, data := .fields #[.ref t, .none, .none, .none, .bool false, .none] }) rfl rfl
  have u2 := update_eq (Obj.mapFields (·.setIfInBounds 4 (Value.bool true))) u1 (o' := { cls := .type cls, data := .fields #[.ref t, .none, .none, .none, .bool true, .none] }) rfl rfl
  have u3 := update_eq (Obj.mapFields (·.setIfInBounds 2 (Value.ref e₁))) u2 (o' := { cls := .type cls, data := .fields #[.ref t, .none, .ref e₁, .none, .bool true, .none] }) rfl rfl
  have hb : Heap.SameBut e hp (((hp.update e (Obj.mapFields (·.setIfInBounds 3 Value.none))).update e (Obj.mapFields (·.setIfInBounds 4 (Value.bool true))))) := (Heap.SameBut.update ..).trans (Heap.SameBut.update ..)
  exact raiseNew_while hh hne ((hb.2 e₁ hne).trans hg1) hd1 hc1 u2 rfl (by simp) (hE _ (hb.trans (Heap.SameBut.update ..)) u3)
end
end Mine
end
section
open PySem PySem.W PyProof.Rows PySem.Calls PySem.SeqAt
set_option Elab.async false
set_option linter.unusedVariables false
set_option maxRecDepth 100000
namespace Mine
section
variable {prog : Program} {w : World} {A : Around} {E : Value → Shared → Prop} {s : Shared}
theorem push_ne {h : Heap} {D : Addr} {o o' : Obj} (e : h.get? D = some o) : (h.push o').get? D = some o := Heap.get?_push_of_some _ e
/-- a set of one truth value, unpacked -/
theorem unpack_one {D : Addr} {b : Bool} {ep : Nat} {Q : List Value → Shared → Prop} (hh : A.handled = none) (ho : s.heap.get? D = some (setO (!byText w) (!b) b ep))
    (h : ∀ h', (∀ c o, s.heap.get? c = some o → h'.get? c = some o) → Q [.bool b] { s with heap := h' }) : wpAny (model prog w) A (unpackItems (.ref D) 1 none) Q E s := by
  have hne : D ≠ s.heap.objs.size := Nat.ne_of_lt (Heap.lt_size ho)
  obtain ⟨nx, n1, n2⟩ := next_one w D b ep
  have hz : (esB (!b) b).size = 1 := by cases b <;> rfl
  unfold unpackItems
  refine wpAny_bind ?_
  unfold notIterableAtAll
  refine wpAny_bind (wpAny_specialOf (typeIs_set ho) slot_set_iter.lookup ?_)
  refine wpAny_pure ?_
  simp only [Bool.false_eq_true, if_false]
  refine wpAny_bind (wpAny_holding (pyIter_set ho ?_))
  have ho₁ := push_ne (o' := setIt D 0 0 (esB (!b) b).size ep) ho
  refine wpAny_bind (wpAny_holding ?_)
  show wpAny _ _ (pyNext (.ref s.heap.objs.size) >>= _) _ _ _
  refine wpAny_bind (pyNext_set_item ho₁ (Heap.get?_push_size _ rfl) n1 fun h₂ hs₂ hi₂ => ?_)
  refine wpAny_bind (wpAny_holding ?_)
  show wpAny _ _ (pure []) _ _ _
  refine wpAny_pure (wpAny_pure ?_)
  rw [if_neg (by simp)]
  have ho₂ : h₂.get? D = some _ := (hs₂.2 D hne).trans ho₁
  refine wpAny_bind (wpAny_holding (pyNext_set_end hh ho₂ hi₂ n2 fun h₃ hs₃ => ?_))
  simp only [Option.isSome_none, Bool.false_eq_true, if_false]
  refine wpAny_pure (h h₃ fun c o hc => ?_)
  have hcn : c ≠ s.heap.objs.size := Nat.ne_of_lt (Heap.lt_size hc)
  exact hs₃ c o hcn ((hs₂.2 c hcn).trans (Heap.get?_push_of_some _ hc))
/-- a set of both truth values, unpacked -/
theorem unpack_two {D : Addr} {ep : Nat} {Q : List Value → Shared → Prop} (hh : A.handled = none) (ho : s.heap.get? D = some (setO (!byText w) true true ep))
    (h : ∀ h' tk e, Heap.NewExc s.heap h' e "ValueError" → E (.ref e) { s with heap := h', toks := tk }) : wpAny (model prog w) A (unpackItems (.ref D) 1 none) Q E s := by
  have hne : D ≠ s.heap.objs.size := Nat.ne_of_lt (Heap.lt_size ho)
  obtain ⟨b, nx, x, n1, n2⟩ := next_two w D ep
  obtain ⟨v, nx'⟩ := x
  unfold unpackItems
  refine wpAny_bind ?_
  unfold notIterableAtAll
  refine wpAny_bind (wpAny_specialOf (typeIs_set ho) slot_set_iter.lookup ?_)
  refine wpAny_pure ?_
  simp only [Bool.false_eq_true, if_false]
  refine wpAny_bind (wpAny_holding (pyIter_set ho ?_))
  have ho₁ := push_ne (o' := setIt D 0 0 (esB true true).size ep) ho
  refine wpAny_bind (wpAny_holding ?_)
  show wpAny _ _ (pyNext (.ref s.heap.objs.size) >>= _) _ _ _
  refine wpAny_bind (pyNext_set_item ho₁ (Heap.get?_push_size _ rfl) n1 fun h₂ hs₂ hi₂ => ?_)
  refine wpAny_bind (wpAny_holding ?_)
  show wpAny _ _ (pure []) _ _ _
  refine wpAny_pure (wpAny_pure ?_)
  rw [if_neg (by simp)]
  have ho₂ : h₂.get? D = some _ := (hs₂.2 D hne).trans ho₁
  refine wpAny_bind (wpAny_holding (pyNext_set_item ho₂ hi₂ n2 fun h₃ hs₃ _ => ?_))
  simp only [Option.isSome_some, if_true]
  refine wpAny_bind (wpAny_rule ?_)
  refine wpAny_bind (wpAny_raiseErrorMade plainExc_ValueError hh (fun h₄ tk e hn => h h₄ tk e ⟨fun c o hc => ?_, ?_, hn.there⟩) (by size_fits))
  · have hcn : c ≠ s.heap.objs.size := Nat.ne_of_lt (Heap.lt_size hc)
    exact hn.keeps c o ((hs₃.2 c hcn).trans ((hs₂.2 c hcn).trans (Heap.get?_push_of_some _ hc)))
  · cases q : s.heap.get? e with
    | none => rfl
    | some o =>
      have hcn : e ≠ s.heap.objs.size := Nat.ne_of_lt (Heap.lt_size q)
      have := hn.new
      have k : h₃.get? e = some o := (hs₃.2 e hcn).trans ((hs₂.2 e hcn).trans (Heap.get?_push_of_some _ q))
      have this : h₃.get? e = none := this
      rw [k] at this; cases this
end
end Mine
end
section
open PySem PySem.W PyProof.Rows PySem.Calls PySem.SeqAt
set_option Elab.async false
set_option linter.unusedVariables false
set_option maxRecDepth 100000
namespace Mine
/-- an exception in flight at this frame -/
noncomputable def Fli (R : RS) (P : PS) (δ : List Addr) (env : Env) (h : Heap) (e : Addr) (cls : String) : Prop :=
  ∃ tb ctx, Exc R P δ env h e cls tb ctx ∧ (tb = .none ∨ ∃ T x, tb = .ref T ∧ Tbk R P δ env h e T x ∧ (x = .none ∨ x = flg env))
/-- what a tree does that ends by an exception -/
structure RunX (g : Glo) (sc : Scope) (n : Nat) {α : Type} (t : Env → Sem α) (ρ : Loc) (σ : List MO) (cls : String) : Prop where
  run : ∀ (env : Env) (A : Around) (R : RS) (P : PS) (δ : List Addr) (s : Shared) (Q : α → Shared → Prop) (E : Value → Shared → Prop), EnvOk env sc → AOk A n R env → Inv g R P δ env ρ σ s.heap →
    (∀ e P' δ' h' tk', (∀ b o, P b o → P' b o) → δ <+: δ' → Inv g R P' δ' env ρ σ h' → Fli R P' δ' env h' e cls → E (.ref e) { s with heap := h', toks := tk' }) →
    wpAny (model g.prog g.w) A (t env) Q E s
/-- statements that end by an exception: no name is known any more -/
structure ExX (g : Glo) (sc : Scope) (n : Nat) (ss : List Stmt) (ρ : Loc) (σ : List MO) (cls : String) : Prop where
  run : ∀ (env : Env) (A : Around) (R : RS) (P : PS) (δ : List Addr) (s : Shared) (Q : Flow → Shared → Prop) (E : Value → Shared → Prop), EnvOk env sc → AOk A n R env → Inv g R P δ env ρ σ s.heap →
    (∀ e P' δ' h' tk', (∀ b o, P b o → P' b o) → δ <+: δ' → Inv g R P' δ' env [] σ h' → Fli R P' δ' env h' e cls → E (.ref e) { s with heap := h', toks := tk' }) →
    wpAny (model g.prog g.w) A (execs ss env) Q E s
/-- a def of the text, called, raises -/
noncomputable def FnX (g : Glo) (n : Nat) (f : Str) (args : List V) (σ : List MO) (cls : String) : Prop :=
  ∃ a o fd, g.mg f = some (.ref a) ∧ g.hb.get? a = some o ∧ o.data = .func fd ∧
    ∀ (env : Env) (ρ : Loc) (A : Around) (R : RS) (P : PS) (δ : List Addr) (s : Shared) (Q : Value → Shared → Prop) (E : Value → Shared → Prop) (vs : List Value), AOk A n R env → Inv g R P δ env ρ σ s.heap → g.SeesL P δ vs args →
      (∀ e P' δ' h' tk', (∀ b o, P b o → P' b o) → δ <+: δ' → Inv g R P' δ' env ρ σ h' → Fli R P' δ' env h' e cls → E (.ref e) { s with heap := h', toks := tk' }) →
      wpAny (model g.prog g.w) A (call (.ref a) vs) Q E s
section
variable {g : Glo} {R : RS} {P P' : PS} {δ δ' : List Addr} {env cenv : Env} {ρ ρ' ρc ρ₁ ρ₂ : Loc} {σ σ' σ₁ σ₂ σ₃ : List MO} {h h' : Heap} {sc : Scope} {n : Nat} {Φ : Out → Prop} {rest : List Stmt} {cls : String}
theorem no_e {E : Value → Shared → Prop} : ∀ e s, NoE e s → E e s := fun _ _ x => x.elim
theorem under_free {a : Addr} {env' : Env} {h₀ : Heap} (I : Inv g R P δ env ρ σ h₀) (f : Free (under R env h₀) P' δ' env' a) : Free R P' δ' env a := by
  refine ⟨fun o x => f.r o (any_under x), f.p, f.d, fun x => ?_⟩
  obtain ⟨o, ho⟩ := I.slot_lt x
  exact f.r o (slot_under x ho)
theorem Fli.up {e : Addr} {env' : Env} {h₀ : Heap} {ctx : Value} {T : Addr} (I : Inv g R P δ env ρ σ h₀) (X : Exc (under R env h₀) P' δ' env' h e cls (.ref T) ctx) (Y : Tbk (under R env h₀) P' δ' env' h e T .none) : Fli R P' δ' env h e cls :=
  ⟨.ref T, ctx, ⟨under_free I X.free, X.there⟩, .inr ⟨T, .none, rfl, ⟨under_free I Y.free, Y.ne, Y.there⟩, .inl rfl⟩⟩

theorem exX_step {st : Stmt} {ρ' : Loc} {σ' : List MO} (h1 : Ex1 g sc n st ρ σ ρ' σ') (h2 : ExX g sc n rest ρ' σ' cls) (hσ : σ' = σ := by rfl) : ExX g sc n (st :: rest) ρ σ cls := .mk fun env A R P δ s Q E O hA I k => by
  subst hσ
  exact wpAny_execs_cons (wpAny_mono (h1.run env A R P δ s _ O hA I fun P' δ' h' tk' le pr I' => h2.run env A R P' δ' { s with heap := h', toks := tk' } Q E O hA I' fun e P₂ δ₂ h₂ tk₂ le₂ pr₂ I₂ F => k e P₂ δ₂ h₂ tk₂ (fun b o z => le₂ b o (le b o z)) (pr.trans pr₂) I₂ F) (fun _ _ z => z) no_e)
/-- an if whose ways meet again -/
theorem exX_ifj {t : Expr} {body orelse : List Stmt} {p : Pos} {b : Bool} {ρ' : Loc} (h1 : EvB g sc n t ρ σ b σ) (h2 : b = true → Ex g sc n body ρ σ (fun o => ∃ r, o = .nx r σ ∧ Sub ρ' r))
    (h3 : b = false → Ex g sc n orelse ρ σ (fun o => ∃ r, o = .nx r σ ∧ Sub ρ' r)) (h : ExX g sc n rest ρ' σ cls) : ExX g sc n (.If t body orelse p :: rest) ρ σ cls := .mk fun env A R P δ s Q E O hA I k => by
  have fin : ∀ (ss : List Stmt) P₁ δ₁ hh₁ tk₁, (∀ b o, P b o → P₁ b o) → δ <+: δ₁ → Inv g R P₁ δ₁ env ρ σ hh₁ → Ex g sc n ss ρ σ (fun o => ∃ r, o = .nx r σ ∧ Sub ρ' r) →
      wpAny (model g.prog g.w) A (execs ss env) (fun f s' => match f with | .next => wpAny (model g.prog g.w) A (execs rest env) Q E s' | f => Q f s') E { s with heap := hh₁, toks := tk₁ } := by
    intro ss P₁ δ₁ hh₁ tk₁ le₁ pr₁ I₁ hx
    refine wpAny_mono (hx.run env A R P₁ δ₁ { s with heap := hh₁, toks := tk₁ } _ O hA I₁ ?_) (fun _ _ z => z) no_e
    rintro o ⟨r, rfl, hr⟩ P₂ δ₂ hh₂ tk₂ le₂ pr₂ I₂
    exact h.run env A R P₂ δ₂ { s with heap := hh₂, toks := tk₂ } Q E O hA (I₂.forget hr) fun e P₃ δ₃ h₃ tk₃ le₃ pr₃ I₃ F => k e P₃ δ₃ h₃ tk₃ (fun b o z => le₃ b o (le₂ b o (le₁ b o z))) ((pr₁.trans pr₂).trans pr₃) I₃ F
  refine wpAny_execs_cons (wpAny_If (wpAny_mono (h1.run env A R P δ s (fun b s₂ => if b then wpAny (model g.prog g.w) A (execs body env) (fun f s' => match f with | .next => wpAny (model g.prog g.w) A (execs rest env) Q E s' | f => Q f s') E s₂ else wpAny (model g.prog g.w) A (execs orelse env) (fun f s' => match f with | .next => wpAny (model g.prog g.w) A (execs rest env) Q E s' | f => Q f s') E s₂) O hA I fun c P₁ δ₁ hh₁ tk₁ le₁ pr₁ I₁ s₁ => ?_) (fun _ _ z => z) no_e))
  subst s₁
  cases c with
  | true => exact fin body P₁ δ₁ hh₁ tk₁ le₁ pr₁ I₁ (h2 rfl)
  | false => exact fin orelse P₁ δ₁ hh₁ tk₁ le₁ pr₁ I₁ (h3 rfl)
theorem exX_skip {t : Expr} {body : List Stmt} {p : Pos} (h1 : EvB g sc n t ρ σ false σ) (h : ExX g sc n rest ρ σ cls) : ExX g sc n (.If t body [] p :: rest) ρ σ cls :=
  exX_ifj h1 (fun e => nomatch e) (fun _ => ex_nil ⟨ρ, rfl, fun _ _ e => e⟩) h
end
end Mine
end
section
open PySem PySem.W PyProof.Rows PySem.Calls PySem.SeqAt
set_option Elab.async false
set_option linter.unusedVariables false
set_option maxRecDepth 100000
namespace Mine
section
variable {g : Glo} {R : RS} {P P' : PS} {δ δ' : List Addr} {env cenv : Env} {ρ ρ' ρc ρ₁ ρ₂ : Loc} {σ σ' σ₁ σ₂ σ₃ : List MO} {h h' : Heap} {sc : Scope} {n : Nat} {Φ : Out → Prop} {rest : List Stmt} {cls : String}
theorem fnX_gen {d : DefRec} {args : List V} {ρ' : Loc} (hd : d ∈ recsOf g.p)
    (hbind : ∀ pm cd doc (ρ : Loc) (A : Around) (R : RS) (P : PS) (δ : List Addr) (env : Env) (s : Shared) (vs : List Value), Inv g R P δ env ρ σ s.heap → g.SeesL P δ vs args →
      wpAny (model g.prog g.w) A (bindArgs (docDef d.name d.params d.body d.scope pm cd doc) ⟨vs, []⟩) (fun binds s₁ => ∃ P₁ h₁ tk₁, s₁ = { s with heap := h₁, toks := tk₁ } ∧ (∀ b o, P b o → P₁ b o) ∧ Inv g R P₁ δ env ρ σ h₁ ∧ Binds g P₁ δ binds ρ' ∧ ∀ b ∈ binds, isVar d.scope b.1 = true) NoE s)
    (hbody : ExX g d.scope n d.body ρ' σ cls)
    (hco : d.scope.isCoroutine = false := by rfl) (hgen : d.scope.isGenerator = false := by rfl) (hk : d.scope.kind = .function := by rfl) : FnX g (n + 1) d.name args σ cls := by
  obtain ⟨a, o, pm, code, doc, h1, h2, h3, h4⟩ := g.top.fn d hd
  refine ⟨a, o, _, h1, h2, h3, ?_⟩
  intro env ρ A R P δ s Q E vs hA I hvs k
  refine wp_call_def h2 h3 h4 hA I (hbind pm code doc ρ A.in1 R P δ env s vs I hvs) (fun env' P₁ h₁ h₂ tk₂ le I₁ keep J O' A' hf => ?_) hco hgen hk
  refine hbody.run env' _ _ P₁ δ { s with heap := h₂, toks := tk₂ } _ _ O' A' J fun e P₂ δ₂ h₃ tk₃ le₂ pr₂ J₂ F => ?_
  obtain ⟨tb, ctx, X, Y⟩ := F
  exact wp_leaving (s := { s with heap := h₃, toks := tk₃ }) A'.stk J₂ X Y fun h₄ T J₃ X₃ Y₃ =>
    k e P₂ δ₂ h₄ tk₃ (fun b o z => le₂ b o (le b o z)) pr₂ (I₁.back J₃ le₂ pr₂) (Fli.up I₁ X₃ Y₃)
theorem fnX_at {name : Str} {params : Arguments} {body : List Stmt} {scope : Scope} {pos : Pos} {args : List V} (names : List Str) (hd : (⟨name, params, body, scope, pos⟩ : DefRec) ∈ recsOf g.p)
    (hbind : ∀ pm cd doc vs, vs.length = args.length → bindArgs (docDef name params body scope pm cd doc) ⟨vs, []⟩ = pure (names.zip vs))
    (hbody : ExX g scope n body (names.zip args) σ cls) (hl : names.length = args.length := by rfl) (hn : names.Nodup := by decide +kernel) (hv : names.all (isVar scope) = true := by decide +kernel)
    (hco : scope.isCoroutine = false := by rfl) (hgen : scope.isGenerator = false := by rfl) (hk : scope.kind = .function := by rfl) : FnX g (n + 1) name args σ cls :=
  fnX_gen (d := ⟨name, params, body, scope, pos⟩) hd (bind_plain names hbind hl hn hv) hbody hco hgen hk
/-- a call that raises -/
theorem evX_call {f : Str} {pf pos : Pos} {args : List Expr} {xs : List V} (m : Nat) (h1 : EvL g sc n pos args ρ σ xs σ) (h2 : FnX g m f xs σ cls) (hf : isGlob sc f = true := by decide +kernel) (hm : m ≤ n := by decide) (hp : firstPlain args = true := by rfl) :
    RunX g sc n (eval (.Call (.Name f pf) args [] pos)) ρ σ cls := .mk fun env A R P δ s Q E O hA I k => by
  obtain ⟨a, o, fd, e1, e2, e3, e4⟩ := h2
  refine wpAny_Call_NameR (wp_global O I hf e1 (callWith_function (o := o) (fd := fd) (evalArgs_first hp ?_)))
  refine wpAny_mono (h1.run env A R P δ s (fun vs s₁ => s₁.heap.get? a = some o ∧ o.data = .func fd ∧ wpAny (model g.prog g.w) A (call (.ref a) vs) Q E s₁) O hA I fun vs P₁ δ₁ hh₁ tk₁ le₁ pr₁ I₁ s₁ => ⟨I₁.keepR _ _ (I₁.base _ _ e2), e3, ?_⟩) (fun vs s₁ z => ⟨⟨z.1, z.2.1⟩, z.2.2⟩) no_e
  exact e4 env ρ A R P₁ δ₁ _ Q E vs (hA.less hm) I₁ s₁ fun e P₂ δ₂ hh₂ tk₂ le₂ pr₂ I₂ F => k e P₂ δ₂ hh₂ tk₂ (fun b o z => le₂ b o (le₁ b o z)) (pr₁.trans pr₂) I₂ F
end
end Mine
end
section
open PySem PySem.W PyProof.Rows PySem.Calls PySem.SeqAt
set_option Elab.async false
set_option linter.unusedVariables false
set_option maxRecDepth 100000
namespace Mine
theorem sub_VT : isSubtype (.type "ValueError") (.type "TypeError") = pure false := by rw [isSubtype_type]; kernel_rfl
theorem sub_VA : isSubtype (.type "ValueError") (.type "AttributeError") = pure false := by rw [isSubtype_type]; kernel_rfl
theorem sub_VV : isSubtype (.type "ValueError") (.type "ValueError") = pure true := by rw [isSubtype_type]; kernel_rfl
theorem isExc_AE : isSubtype (.type "AttributeError") (.type "BaseException") = pure true := by rw [isSubtype_type]; kernel_rfl
theorem notTup_TE : isSubtype (.type ((Manifest.find? "TypeError").elim "type" fun x => x.metatype)) (.type "tuple") = pure false := by rw [isSubtype_type]; kernel_rfl
theorem notTup_AE : isSubtype (.type ((Manifest.find? "AttributeError").elim "type" fun x => x.metatype)) (.type "tuple") = pure false := by rw [isSubtype_type]; kernel_rfl
theorem notTup_VE : isSubtype (.type ((Manifest.find? "ValueError").elim "type" fun x => x.metatype)) (.type "tuple") = pure false := by rw [isSubtype_type]; kernel_rfl
section
variable {g : Glo} {R : RS} {P P' : PS} {δ δ' : List Addr} {env cenv : Env} {ρ ρ' ρc ρ₁ ρ₂ : Loc} {σ σ' σ₁ σ₂ σ₃ : List MO} {h h' : Heap} {sc : Scope} {n : Nat} {Φ : Out → Prop} {rest : List Stmt} {cls : String}
theorem Exc.grows {e : Addr} {tb ctx : Value} (X : Exc R P δ env h e cls tb ctx) (hk : ∀ b o, h.get? b = some o → h'.get? b = some o) : Exc R P δ env h' e cls tb ctx :=
  let ⟨oe, vs, he, r⟩ := X.there; ⟨X.free, oe, vs, hk _ _ he, r⟩
theorem Tbk.grows {e T : Addr} {x : Value} (X : Tbk R P δ env h e T x) (hk : ∀ b o, h.get? b = some o → h'.get? b = some o) : Tbk R P δ env h' e T x :=
  let ⟨oe, vs, he, r⟩ := X.there; ⟨X.free, X.ne, oe, vs, hk _ _ he, r⟩
theorem Exc.typeIs {e : Addr} {tb ctx : Value} {s : Shared} (X : Exc R P δ env s.heap e cls tb ctx) : s.TypeIs (.ref e) cls :=
  let ⟨oe, vs, he, hc, _⟩ := X.there; ⟨oe, he, hc⟩

/-- two classes that the exception is not of -/
theorem exX_miss {body : List Stmt} {b₀ : Stmt} {suite : List Stmt} {p1 p2 p3 hpos pos : Pos} {k : Nat} (h1 : ExX g sc n body ρ σ "ValueError")
    (hT : isGlob sc "TypeError" = true := by decide +kernel) (hA : isGlob sc "AttributeError" = true := by decide +kernel) (hmT : g.mg "TypeError" = none := by exact (‹Has g _›).blt _ (by decide +kernel)) (hmA : g.mg "AttributeError" = none := by exact (‹Has g _›).blt _ (by decide +kernel)) :
    ExX g sc n (.Try body [.ExceptHandler (some (.Tuple [.Name "TypeError" p1, .Name "AttributeError" p2] k p3)) none (b₀ :: suite) hpos] [] [] pos :: rest) ρ σ "ValueError" := .mk fun env A R P δ s Q E O hA' I kk => by
  refine wpAny_execs_cons (wpAny_Try_except (wpAny_mono (h1.run env A R P δ s (fun _ _ => False) (fun e s₁ => wpAny (model g.prog g.w) A (noteFrame e env) (fun _ s₂ => wpAny (model g.prog g.w) A (setFlight e none) (fun _ s₃ => wpAny (model g.prog g.w) A (handleBy e env [.ExceptHandler (some (.Tuple [.Name "TypeError" p1, .Name "AttributeError" p2] k p3)) none (b₀ :: suite) hpos]) _ E s₃) E s₂) E s₁) O hA' I fun e P₁ δ₁ h₁ tk₁ le pr I₁ F => ?_) (fun _ _ z => z.elim) (fun _ _ z => z)))
  obtain ⟨tb, ctx, X, Y⟩ := F
  refine wp_note (s := { s with heap := h₁, toks := tk₁ }) hA'.stk I₁ X Y fun h₂ T I₂ X₂ Y₂ => ?_
  refine wp_flight (s := { s with heap := h₂, toks := tk₁ }) I₂ X₂ Y₂ none fun h₃ I₃ X₃ Y₃ => ?_
  refine wpAny_handleBy_tup2 PySem.F.isExc_TypeError notTup_TE isExc_AE notTup_AE sub_VT sub_VA ?_
  refine wpAny_Tuple_spliced ?_
  have e2 : starEach [Expr.Name "TypeError" p1, .Name "AttributeError" p2] env = (false, eval (.Name "TypeError" p1) env) :: (false, eval (.Name "AttributeError" p2) env) :: [] := rfl
  rw [e2]
  refine spliced_cons (wp_builtin (s := { s with heap := h₃, toks := tk₁ }) O I₃ hT hmT (v := .type "TypeError") (by decide +kernel) (by decide +kernel) ?_)
  refine spliced_cons (wp_builtin (s := { s with heap := h₃, toks := tk₁ }) O I₃ hA hmA (v := .type "AttributeError") (by decide +kernel) (by decide +kernel) ?_)
  refine spliced_nil ⟨by rw [sizeLine_eq]; decide, _, rfl, ⟨_, Heap.get?_push_size _ rfl, rfl, _, rfl⟩, ?_, ?_⟩
  · exact (X₃.grows fun b o q => Heap.get?_push_of_some _ q).typeIs (s := { s with heap := h₃.push _, toks := tk₁ })
  · have hk : ∀ b o, h₃.get? b = some o → (h₃.push { cls := .type "tuple", data := .seq ([Value.type "TypeError", .type "AttributeError"] : List Value).toArray }).get? b = some o := fun b o q => Heap.get?_push_of_some _ q
    refine wpAny_handleBy_nil ?_
    refine wp_passOn (s := { s with heap := h₃.push _, toks := tk₁ }) (I₃.grows hk) (X₃.grows hk) (Y₃.grows hk) fun h₄ I₄ X₄ Y₄ => ?_
    exact kk e P₁ δ₁ h₄ tk₁ le pr I₄ ⟨_, _, X₄, .inr ⟨T, _, rfl, Y₄, .inr rfl⟩⟩
/-- statements that end by a new exception -/
structure ExN (g : Glo) (sc : Scope) (n : Nat) (ss : List Stmt) (ρ : Loc) (σ : List MO) (cls : String) : Prop where
  run : ∀ (env : Env) (A : Around) (R : RS) (P : PS) (δ : List Addr) (s : Shared) (Q : Flow → Shared → Prop) (E : Value → Shared → Prop), EnvOk env sc → AOk A n R env → Inv g R P δ env ρ σ s.heap →
    (∀ e P' δ' h' tk', (∀ b o, P b o → P' b o) → δ <+: δ' → Inv g R P' δ' env ρ σ h' → Exc R P' δ' env h' e cls .none .none → E (.ref e) { s with heap := h', toks := tk' }) →
    wpAny (model g.prog g.w) A (execs ss env) Q E s
/-- caught, and another raised in its stead -/
theorem exX_reraise {body : List Stmt} {p1 p2 p3 p4 p5 hpos pos cpos : Pos} {m : Str} {k1 k2 : Nat} (h1 : ExN g sc n body ρ σ "ValueError")
    (hV : isGlob sc "ValueError" = true := by decide +kernel) (hmV : g.mg "ValueError" = none := by exact (‹Has g _›).blt _ (by decide +kernel)) :
    ExX g sc n (.Try body [.ExceptHandler (some (.Name "ValueError" p1)) none [.Raise (some (.Call (.Name "ValueError" p2) [.Constant (.str m) k1 p3] [] cpos)) (some (.Constant .none k2 p4)) p5] hpos] [] [] pos :: rest) ρ σ "ValueError" := .mk fun env A R P δ s Q E O hA' I kk => by
  have S := hA'.stk
  refine wpAny_execs_cons (wpAny_Try_except (wpAny_mono (h1.run env A R P δ s (fun _ _ => False) (fun e s₁ => wpAny (model g.prog g.w) A (noteFrame e env) (fun _ s₂ => wpAny (model g.prog g.w) A (setFlight e none) (fun _ s₃ => wpAny (model g.prog g.w) A (handleBy e env [.ExceptHandler (some (.Name "ValueError" p1)) none [.Raise (some (.Call (.Name "ValueError" p2) [.Constant (.str m) k1 p3] [] cpos)) (some (.Constant .none k2 p4)) p5] hpos]) _ E s₃) E s₂) E s₁) O hA' I fun e P₁ δ₁ h₁ tk₁ le pr I₁ X => ?_) (fun _ _ z => z.elim) (fun _ _ z => z)))
  refine wp_note (s := { s with heap := h₁, toks := tk₁ }) S I₁ X (.inl rfl) fun h₂ T I₂ X₂ Y₂ => ?_
  refine wp_flight (s := { s with heap := h₂, toks := tk₁ }) I₂ X₂ Y₂ none fun h₃ I₃ X₃ Y₃ => ?_
  refine wpAny_handleBy_builtin (X := "ValueError") (T := "ValueError") (b := true) PySem.F.isExc_ValueError notTup_VE sub_VV (wp_builtin (s := { s with heap := h₃, toks := tk₁ }) O I₃ hV hmV (v := .type "ValueError") (by decide +kernel) (by decide +kernel) ⟨rfl, X₃.typeIs (s := { s with heap := h₃, toks := tk₁ }), ?_⟩)
  simp only [if_true]
  refine wp_flight (s := { s with heap := h₃, toks := tk₁ }) I₃ X₃ Y₃ none fun h₄ I₄ X₄ Y₄ => ?_
  refine wpAny_execs_cons ?_
  rw [arm_exec_Raise]
  refine wpAny_bind (wpAny_standAt ?_)
  refine raise_from_none PySem.F.excRaise_ValueError (e₁ := e) rfl ?_
  show wpAny _ _ (eval (.Call (.Name "ValueError" p2) [.Constant (.str m) k1 p3] [] cpos) env >>= _) _ _ _
  refine wpAny_bind (wpAny_Call_ofName (wp_builtin (s := { s with heap := h₄, toks := tk₁ }) O I₄ hV hmV (v := .type "ValueError") (by decide +kernel) (by decide +kernel) ?_))
  refine callWith_excType rfl ?_
  refine evalArgs_first rfl ?_
  have e2 : starEach [Expr.Constant (.str m) k1 p3] env = (false, eval (.Constant (.str m) k1 p3) env) :: [] := rfl
  rw [e2]
  refine spliced_cons (@wpAny_Constant_str _ _ _ _ env m k1 p3 _ (spliced_nil ?_))
  refine wpAny_call_exc PySem.F.excCall_ValueError (hrest := by rw [sizeLine_eq]; simp) fun h₅ e' hm => ?_
  obtain ⟨t, ht, hn, htt⟩ := hm.there
  have hk := hm.keeps
  have hne : e ≠ e' := by
    rintro rfl
    obtain ⟨oe, vs, he, _⟩ := X₄.there
    have := hm.new
    rw [he] at this; cases this
  have I₅ := I₄.grows hk
  have X₅ := X₄.grows hk
  have fe := I₄.free hm.new
  obtain ⟨oe, vs, he, hc, hd, hz, hv1, hv2⟩ := X₅.there
  refine wpAny_bind (wpAny_standAt (wpAny_pure ⟨e', t, oe, vs, rfl, ht, hne, he, hd, hv2, ?_⟩))
  show wpAny _ _ (eval (.Constant .none k2 p4) env >>= _) _ _ _
  refine wpAny_bind (@wpAny_Constant_none _ _ _ _ env k2 p4 _ (wpAny_bind (wpAny_standAt (wpAny_pure ⟨rfl, rfl, fun h₆ hs₆ he₆ => ?_⟩))))
  have I₆ := I₅.sameBut fe hs₆
  have X₆ : Exc R P₁ δ₁ env h₆ e' "ValueError" .none (.ref e) := ⟨fe, _, _, he₆, rfl, rfl, rfl, rfl, rfl⟩
  refine wp_note (s := { s with heap := h₆, toks := tk₁ + 1 }) (S.mark _) I₆ X₆ (.inl rfl) fun h₇ T₇ I₇ X₇ Y₇ => ?_
  refine wp_back (s := { s with heap := h₇, toks := tk₁ + 1 }) I₇ X₇ Y₇ fun h₈ I₈ X₈ Y₈ => ?_
  exact kk e' P₁ δ₁ h₈ (tk₁ + 1) le pr (I₈.forget fun x y q => by cases q) ⟨_, _, X₈, .inr ⟨T₇, _, rfl, Y₈, .inr rfl⟩⟩
end
end Mine
end
section
open PySem PySem.W PyProof.Rows PySem.Calls PySem.SeqAt
set_option Elab.async false
set_option linter.unusedVariables false
set_option maxRecDepth 100000
namespace Mine
section
variable {g : Glo} {R : RS} {P P' : PS} {δ δ' : List Addr} {env cenv : Env} {ρ ρ' ρc ρ₁ ρ₂ : Loc} {σ σ' σ₁ σ₂ σ₃ : List MO} {h h' : Heap} {sc : Scope} {n : Nat} {Φ : Out → Prop} {rest : List Stmt} {cls : String}
/-- what raises is caught, and the name is given None -/
theorem ex_tryX {a : Str} {pa p p1 p2 p3 p4 hpos pos : Pos} {e : Expr} {k : Nat} (h1 : RunX g sc n (eval e) ρ σ "ValueError") (h : Ex g sc n rest ((a, .none) :: ρ) σ Φ) (ha : isVar sc a = true := by decide +kernel)
    (hs : ∀ env, swapsWith e (some (.Name a pa)) p.line env = pure false := by intro _; rfl)
    (hV : isGlob sc "ValueError" = true := by decide +kernel) (hmV : g.mg "ValueError" = none := by exact (‹Has g _›).blt _ (by decide +kernel)) :
    Ex g sc n (.Try [.Assign [.Name a pa] e p] [.ExceptHandler (some (.Name "ValueError" p1)) none [.Assign [.Name a p2] (.Constant .none k p3) p4] hpos] [] [] pos :: rest) ρ σ Φ := .mk fun env A R P δ s Q O hA I kk => by
  have S := hA.stk
  refine wpAny_execs_cons (wpAny_Try_except (wpAny_execs_cons (wpAny_Assign_Name (h1.run env A R P δ s _ _ O hA I fun e P₁ δ₁ h₁ tk₁ le pr I₁ F => ?_) (hs env))))
  obtain ⟨tb, ctx, X, Y⟩ := F
  refine wp_note (s := { s with heap := h₁, toks := tk₁ }) S I₁ X Y fun h₂ T I₂ X₂ Y₂ => ?_
  refine wp_flight (s := { s with heap := h₂, toks := tk₁ }) I₂ X₂ Y₂ none fun h₃ I₃ X₃ Y₃ => ?_
  refine wpAny_handleBy_builtin (X := "ValueError") (T := "ValueError") (b := true) PySem.F.isExc_ValueError notTup_VE sub_VV (wp_builtin (s := { s with heap := h₃, toks := tk₁ }) O I₃ hV hmV (v := .type "ValueError") (by decide +kernel) (by decide +kernel) ⟨rfl, X₃.typeIs (s := { s with heap := h₃, toks := tk₁ }), ?_⟩)
  simp only [if_true]
  refine wp_flight (s := { s with heap := h₃, toks := tk₁ }) I₃ X₃ Y₃ none fun h₄ I₄ X₄ Y₄ => ?_
  refine wpAny_execs_cons (wpAny_Assign_Name (@wpAny_Constant_none _ _ _ _ env k p3 _ (wp_store (s := { s with heap := h₄, toks := tk₁ }) O I₄ ha .none fun h₅ tk₅ I₅ => wpAny_execs_nil ?_)) rfl)
  exact h.run env A R P₁ δ₁ { s with heap := h₅, toks := tk₅ } Q O hA I₅ fun o ho => (kk o ho).mono le pr

theorem sees_bools : ∀ {bs cs : List Bool}, g.SeesL P δ (bs.map Value.bool) (cs.map V.bool) → bs = cs
  | [], [], _ => rfl
  | b :: bs, c :: cs, h => by
    obtain ⟨v, vs, e, h1, h2⟩ := SeesL.cons_inv h
    injection e with e1 e2
    subst e1 e2
    have := h1.tells
    injection this with this
    rw [this, sees_bools h2]
  | [], _ :: _, h => nomatch h.1
  | _ :: _, [], h => nomatch h.1
theorem outs_all (val : Nat → V) (N : Nat) : outs (fun _ => true) val N = (List.range N).map val := by unfold outs; rw [List.filter_eq_self.mpr fun _ _ => rfl]
/-- the set of truth values that a comprehension makes -/
theorem wp_sc {tgt elt iter : Expr} {scope : Scope} {pos : Pos} {xs : List V} (vb : Nat → Bool) (hc : lcScope scope = true) (hl : lcLends scope sc = true) (hsrc : Src g sc n iter ρ σ xs σ tgt) (hz : xs.length ≤ 16777215)
    (hturn : ∀ (i : Nat) y, xs[i]? = some y → ∃ ρ', Asg g (relab scope sc) n tgt y (capt scope sc ρ) ρ' ∧ Sub (capt scope sc ρ) ρ' ∧ Ev g (relab scope sc) n elt ρ' σ (.bool (vb i)) σ)
    {A : Around} {s : Shared} {Q : Value → Shared → Prop} (O : EnvOk env sc) (hA : AOk A n R env) (I : Inv g R P δ env ρ σ s.heap) (hs : ∀ x, foldedSetIterable iter env x = pure x)
    (hp : ∀ P' δ' D ep h' tk', (∀ b o, P b o → P' b o) → δ <+: δ' → Inv g R P' δ' env ρ σ h' → h'.get? D = some (setO (!byText g.w) (((List.range xs.length).map vb).contains false) (((List.range xs.length).map vb).contains true) ep) → Q (.ref D) { s with heap := h', toks := tk' }) :
    wpAny (model g.prog g.w) A (eval (.SetComp elt [⟨tgt, iter, [], 0⟩] scope pos) env) Q NoE s := by
  rw [arm_eval_SetComp]
  refine wp_lc .s (fun _ => true) (fun i => .bool (vb i)) hc hl hsrc hz (fun i y hy => let ⟨ρ', a, b, c⟩ := hturn i y hy; ⟨ρ', a, b, tst_nil, fun _ => ⟨c, _, rfl⟩⟩) (use := none) O hA I hs fun P' δ' C D h' tk' ys le pr I' hm hf hDf hDC hpl hys hne => ?_
  obtain ⟨m, hm⟩ := hm
  obtain ⟨bs, ep, rfl, hD⟩ := hpl
  have hbs : bs = (List.range xs.length).map vb := by
    refine sees_bools (g := g) (P := P') (δ := δ') ?_
    rw [outs_all] at hys
    rwa [List.map_map]
  subst hbs
  exact ⟨m, hm, fun h'' hs'' => hp P' δ' D ep h'' tk' le pr (I'.sameBut hf hs'') ((hs''.2 D hDC).trans hD)⟩
theorem swaps_tup {ts : List Expr} {k : Nat} {pt pos : Pos} {elt : Expr} {gens : List Comprehension} {scope : Scope} (line : Nat) (env : Env) : swapsWithSole [.Tuple ts k pt] (.SetComp elt gens scope pos) line env = pure false := rfl
theorem assign_one {A : Around} {E : Value → Shared → Prop} {s : Shared} {a : Str} {pa pt : Pos} {k : Nat} {v : Value} {Q : Unit → Shared → Prop}
    (h : wpAny (model g.prog g.w) A (unpackItems v 1 none) (fun vs s' => wpAny (model g.prog g.w) A (assignInOrder [assign (.Name a pa) env] vs) Q E s') E s) : wpAny (model g.prog g.w) A (assign (.Tuple [.Name a pa] k pt) env v) Q E s := by
  rw [arm_assign_Tuple]
  refine wpAny_bind (wpAny_standAt ?_)
  unfold unpack
  refine wpAny_bind (wpAny_holding ?_)
  exact h
/-- one truth value alone -/
theorem ex1_set {a : Str} {pa pt p : Pos} {kt : Nat} {tgt elt iter : Expr} {scope : Scope} {pos : Pos} {xs : List V} (b : Bool) (hsrc : Src g sc n iter ρ σ xs σ tgt) (hne : xs ≠ []) (hz : xs.length ≤ 16777215)
    (hturn : ∀ (i : Nat) y, xs[i]? = some y → ∃ ρ', Asg g (relab scope sc) n tgt y (capt scope sc ρ) ρ' ∧ Sub (capt scope sc ρ) ρ' ∧ Ev g (relab scope sc) n elt ρ' σ (.bool b) σ)
    (ha : isVar sc a = true := by decide +kernel) (hc : lcScope scope = true := by decide +kernel) (hl : lcLends scope sc = true := by decide +kernel) (hs : ∀ env x, foldedSetIterable iter env x = pure x := by intro _ _; rfl) :
    Ex1 g sc n (.Assign [.Tuple [.Name a pa] kt pt] (.SetComp elt [⟨tgt, iter, [], 0⟩] scope pos) p) ρ σ ((a, .bool b) :: ρ) σ := .mk fun env A R P δ s Q O hA I k => by
  refine Assign_Tuple (wp_sc (fun _ => b) hc hl hsrc hz hturn O hA I (hs env) (xs := xs) fun P' δ' D ep h' tk' le pr I' hD => ?_) (swaps_tup ..) rfl
  have hb : (((List.range xs.length).map fun _ => b).contains false) = !b ∧ (((List.range xs.length).map fun _ => b).contains true) = b := by
    have : xs.length ≠ 0 := fun e => hne (List.length_eq_zero_iff.mp e)
    have hm : ∀ c : Bool, ((List.range xs.length).map fun _ => b).contains c = (c == b) := fun c => by
      rw [Bool.eq_iff_iff, List.contains_iff_mem, List.mem_map]
      constructor
      · rintro ⟨_, _, rfl⟩; exact beq_self_eq_true _
      · intro e
        exact ⟨0, List.mem_range.mpr (by omega), (eq_of_beq e).symm⟩
    rw [hm, hm]
    cases b <;> exact ⟨rfl, rfl⟩
  rw [hb.1, hb.2] at hD
  refine assign_one (unpack_one (s := { s with heap := h', toks := tk' }) hA.handled hD fun h'' hk => ?_)
  show wpAny _ _ (holding [] (assign (.Name a pa) env (.bool b)) >>= _) _ _ _
  refine wpAny_bind (wpAny_holding (wpAny_assign_Name (wp_store (s := { s with heap := h'', toks := tk' }) O (I'.grows hk) ha (.bool b) fun h3 tk3 I3 => ?_)))
  exact wpAny_pure (k P' δ' h3 tk3 le pr I3)
/-- both truth values -/
theorem exN_set {a : Str} {pa pt p : Pos} {kt : Nat} {tgt elt iter : Expr} {scope : Scope} {pos : Pos} {xs : List V} (vb : Nat → Bool) (hsrc : Src g sc n iter ρ σ xs σ tgt) (hz : xs.length ≤ 16777215)
    (hturn : ∀ (i : Nat) y, xs[i]? = some y → ∃ ρ', Asg g (relab scope sc) n tgt y (capt scope sc ρ) ρ' ∧ Sub (capt scope sc ρ) ρ' ∧ Ev g (relab scope sc) n elt ρ' σ (.bool (vb i)) σ)
    (hT : ∃ i, i < xs.length ∧ vb i = true) (hF : ∃ i, i < xs.length ∧ vb i = false) (hc : lcScope scope = true := by decide +kernel) (hl : lcLends scope sc = true := by decide +kernel) (hs : ∀ env x, foldedSetIterable iter env x = pure x := by intro _ _; rfl) :
    ExN g sc n (.Assign [.Tuple [.Name a pa] kt pt] (.SetComp elt [⟨tgt, iter, [], 0⟩] scope pos) p :: rest) ρ σ "ValueError" := .mk fun env A R P δ s Q E O hA I k => by
  refine wpAny_execs_cons (Assign_Tuple (wpAny_mono (wp_sc vb hc hl hsrc hz hturn O hA I (hs env) (Q := fun v s₁ => wpAny (model g.prog g.w) A (assign (.Tuple [.Name a pa] kt pt) env v) (fun _ _ => False) E s₁) fun P' δ' D ep h' tk' le pr I' hD => ?_) (fun v s₁ z => wpAny_mono z (fun _ _ z => z.elim) fun _ _ z => z) no_e) (swaps_tup ..) rfl)
  have hb : ((List.range xs.length).map vb).contains false = true ∧ ((List.range xs.length).map vb).contains true = true := by
    obtain ⟨i, hi, ei⟩ := hT
    obtain ⟨j, hj, ej⟩ := hF
    exact ⟨List.contains_iff_mem.mpr (List.mem_map.mpr ⟨j, List.mem_range.mpr hj, ej⟩), List.contains_iff_mem.mpr (List.mem_map.mpr ⟨i, List.mem_range.mpr hi, ei⟩)⟩
  rw [hb.1, hb.2] at hD
  refine assign_one (unpack_two (s := { s with heap := h', toks := tk' }) hA.handled hD fun h'' tk e hn => ?_)
  obtain ⟨ob, tp, he, hcls, hd⟩ := hn.there
  have fe := I'.free hn.new
  exact k e P' δ' h'' tk le pr (I'.grows hn.keeps) ⟨fe, ob, _, he, hcls, hd, rfl, rfl, rfl⟩
end
end Mine
end
section
open PySem PySem.W PyProof.Rows PySem.Calls PySem.SeqAt
open AutoSeq1 (wpAny_loadPart')
open MeetsSeq MeetsSeq2 MeetsSeq3
set_option Elab.async false
set_option linter.unusedVariables false
set_option maxRecDepth 100000
namespace Mine
/-- two lists compared from a place on: the first pair that differs decides, else the sizes -/
noncomputable def cw (e c : Nat → Bool) (fin : Bool) : Nat → Nat → Bool
  | 0, _ => fin
  | k + 1, i => if e i then cw e c fin k (i + 1) else c i
/-- how an order asks -/
noncomputable def RcOp (op : CmpOp) (A : Around) (s : Shared) (y x : Value) (b : Bool) : Prop :=
  ∀ (prog : Program) (w : World) (E : Value → Shared → Prop) (Q : Value → Shared → Prop), Q (.bool b) s → wpAny (model prog w) A (richCompare op y x) Q E s
theorem lt_loopAt (l b : Addr) (items items2 : Array Value) (n n2 : Nat) (dd dd2 : Option Addr) (sl sl2 : Array (Option Value)) (e c : Nat → Bool) (k : Nat) :
    ∀ i : Nat, min items.size items2.size - i = k → i ≤ min items.size items2.size → Meets (Builtin.«list.__eq__.loop» ⟨[.ref l, .ref b, rawInt i, rawInt 0], []⟩)
      (fun A R s => s.heap.get? l = some { cls := .type "list", dict := dd, data := .seq items n, slots := sl } ∧ s.heap.get? b = some { cls := .type "list", dict := dd2, data := .seq items2 n2, slots := sl2 } ∧
        (∀ j (h1 : j < items.size) (h2 : j < items2.size), EqAt A.in1 s items[j] items2[j] (e j) ∧ RcOp .Lt A.in1 s items[j] items2[j] (c j)) ∧
        R (.ok (.ret (.bool (cw e c (decide (items.size < items2.size)) k i)))) s) := by
  induction k with
  | zero =>
    intro i hk hle prog w A R s h
    obtain ⟨hp, g, d, tk, os⟩ := s; obtain ⟨hl, hb, he, h⟩ := h
    wp_walk using wpAny_loadPart' hl, wpAny_loadPart' hb
    by_cases h1 : i < items.size
    · have hi1 : items[((i : Nat) : Int).toNat]? = some items[i] := by simp [h1]
      have hi2 : items2[((i : Nat) : Int).toNat]? = none := by simp; omega
      rw [hi1, hi2]
      wp_walk using wpAny_loadPart' hl, wpAny_loadPart' hb
      exact h
    · have hi1 : items[((i : Nat) : Int).toNat]? = none := by simp; omega
      rw [hi1]
      wp_walk using wpAny_loadPart' hl, wpAny_loadPart' hb
      exact h
  | succ k ih =>
    intro i hk hle prog w A R s h
    obtain ⟨hp, g, d, tk, os⟩ := s; obtain ⟨hl, hb, he, h⟩ := h
    wp_walk using wpAny_loadPart' hl, wpAny_loadPart' hb
    have hlt : i < items.size := by omega
    have hlt2 : i < items2.size := by omega
    have hi1 : items[((i : Nat) : Int).toNat]? = some items[i] := by simp [hlt]
    have hi2 : items2[((i : Nat) : Int).toNat]? = some items2[i] := by simp [hlt2]
    have hc : ((i : Int) + 1) = ((i + 1 : Nat) : Int) := by push_cast; rfl
    rw [hi1, hi2]
    refine wpAny_bind ((he i hlt hlt2).1 prog w _ _ ?_)
    unfold cw at h
    cases hb' : e i with
    | true =>
      rw [hb'] at h
      wp_walk
      rw [hc]
      exact ⟨plainId_quiet plain_eq_loop _, codeAny_builtin entry_eq_loop (by
        rw [Around.under_plainId plain_eq_loop _]
        exact ih (i + 1) (by omega) (by omega) prog w A R _ ⟨hl, hb, he, by simpa using h⟩)⟩
    | false =>
      rw [hb'] at h
      wp_walk using wpAny_loadPart' hl, wpAny_loadPart' hb
      rw [hi1, hi2]
      refine wpAny_bind ((he i hlt hlt2).2 prog w _ _ ?_)
      exact wpAny_pure (by simpa using h)
theorem gt_loopAt (l b : Addr) (items items2 : Array Value) (n n2 : Nat) (dd dd2 : Option Addr) (sl sl2 : Array (Option Value)) (e c : Nat → Bool) (k : Nat) :
    ∀ i : Nat, min items.size items2.size - i = k → i ≤ min items.size items2.size → Meets (Builtin.«list.__eq__.loop» ⟨[.ref l, .ref b, rawInt i, rawInt 4], []⟩)
      (fun A R s => s.heap.get? l = some { cls := .type "list", dict := dd, data := .seq items n, slots := sl } ∧ s.heap.get? b = some { cls := .type "list", dict := dd2, data := .seq items2 n2, slots := sl2 } ∧
        (∀ j (h1 : j < items.size) (h2 : j < items2.size), EqAt A.in1 s items[j] items2[j] (e j) ∧ RcOp .Gt A.in1 s items[j] items2[j] (c j)) ∧
        R (.ok (.ret (.bool (cw e c (decide (items2.size < items.size)) k i)))) s) := by
  induction k with
  | zero =>
    intro i hk hle prog w A R s h
    obtain ⟨hp, g, d, tk, os⟩ := s; obtain ⟨hl, hb, he, h⟩ := h
    wp_walk using wpAny_loadPart' hl, wpAny_loadPart' hb
    by_cases h1 : i < items.size
    · have hi1 : items[((i : Nat) : Int).toNat]? = some items[i] := by simp [h1]
      have hi2 : items2[((i : Nat) : Int).toNat]? = none := by simp; omega
      rw [hi1, hi2]
      wp_walk using wpAny_loadPart' hl, wpAny_loadPart' hb
      exact h
    · have hi1 : items[((i : Nat) : Int).toNat]? = none := by simp; omega
      rw [hi1]
      wp_walk using wpAny_loadPart' hl, wpAny_loadPart' hb
      exact h
  | succ k ih =>
    intro i hk hle prog w A R s h
    obtain ⟨hp, g, d, tk, os⟩ := s; obtain ⟨hl, hb, he, h⟩ := h
    wp_walk using wpAny_loadPart' hl, wpAny_loadPart' hb
    have hlt : i < items.size := by omega
    have hlt2 : i < items2.size := by omega
    have hi1 : items[((i : Nat) : Int).toNat]? = some items[i] := by simp [hlt]
    have hi2 : items2[((i : Nat) : Int).toNat]? = some items2[i] := by simp [hlt2]
    have hc : ((i : Int) + 1) = ((i + 1 : Nat) : Int) := by push_cast; rfl
    rw [hi1, hi2]
    refine wpAny_bind ((he i hlt hlt2).1 prog w _ _ ?_)
    unfold cw at h
    cases hb' : e i with
    | true =>
      rw [hb'] at h
      wp_walk
      rw [hc]
      exact ⟨plainId_quiet plain_eq_loop _, codeAny_builtin entry_eq_loop (by
        rw [Around.under_plainId plain_eq_loop _]
        exact ih (i + 1) (by omega) (by omega) prog w A R _ ⟨hl, hb, he, by simpa using h⟩)⟩
    | false =>
      rw [hb'] at h
      wp_walk using wpAny_loadPart' hl, wpAny_loadPart' hb
      rw [hi1, hi2]
      refine wpAny_bind ((he i hlt hlt2).2 prog w _ _ ?_)
      exact wpAny_pure (by simpa using h)
theorem list_ltAt (l b : Addr) (items items2 : Array Value) (n n2 : Nat) (dd dd2 : Option Addr) (sl sl2 : Array (Option Value)) (e c : Nat → Bool) :
    Meets (Builtin.«list.__lt__» ⟨[.ref l, .ref b], []⟩)
      (fun A R s => s.heap.get? l = some { cls := .type "list", dict := dd, data := .seq items n, slots := sl } ∧ s.heap.get? b = some { cls := .type "list", dict := dd2, data := .seq items2 n2, slots := sl2 } ∧
        (∀ j (h1 : j < items.size) (h2 : j < items2.size), EqAt A.in1 s items[j] items2[j] (e j) ∧ RcOp .Lt A.in1 s items[j] items2[j] (c j)) ∧
        R (.ok (.ret (.bool (cw e c (decide (items.size < items2.size)) (min items.size items2.size) 0)))) s) := by
  intro prog w A R s h
  obtain ⟨hp, g, d, tk, os⟩ := s; obtain ⟨hl, hb, he, h⟩ := h
  have f3 := AutoSeq1.sub_list_list
  wp_walk using wpAny_loadPart' hl, wpAny_loadPart' hb
  exact ⟨plainId_quiet plain_eq_loop _, codeAny_builtin entry_eq_loop (by
    rw [Around.under_plainId plain_eq_loop _]
    exact lt_loopAt l b items items2 n n2 dd dd2 sl sl2 e c _ 0 rfl (Nat.zero_le _) prog w A R _ ⟨hl, hb, he, by simpa using h⟩)⟩
theorem RcOp.lists_lt {A : Around} {s : Shared} {l b : Addr} {items items2 : Array Value} {e c : Nat → Bool} (hl : s.heap.IsList l items) (hb : s.heap.IsList b items2) (hu : A.units < cLine)
    (he : ∀ j (h1 : j < items.size) (h2 : j < items2.size), EqAt A.in1 s items[j] items2[j] (e j) ∧ RcOp .Lt A.in1 s items[j] items2[j] (c j)) :
    RcOp .Lt A s (.ref l) (.ref b) (cw e c (decide (items.size < items2.size)) (min items.size items2.size) 0) := fun prog w E Q h => by
  obtain ⟨⟨cls, dd, data, sl⟩, ho, hc, n, hd⟩ := id hl
  obtain ⟨⟨cls2, dd2, data2, sl2⟩, ho2, hc2, n2, hd2⟩ := id hb
  simp only at hc hd hc2 hd2
  subst hc hd hc2 hd2
  exact richCompare_meets_room (op := .Lt) ⟨_, ho, rfl⟩ ⟨_, ho2, rfl⟩ F.slot_list_lt F.entry_list_lt (F.args_list_lt_2 _ _) (list_ltAt l b items items2 n n2 dd dd2 sl sl2 e c)
    ⟨ho, ho2, he, show Value.bool _ ≠ Value.notImplemented ∧ Q (.bool _) s from ⟨(fun x => nomatch x), h⟩⟩ hu
theorem list_gtAt (l b : Addr) (items items2 : Array Value) (n n2 : Nat) (dd dd2 : Option Addr) (sl sl2 : Array (Option Value)) (e c : Nat → Bool) :
    Meets (Builtin.«list.__gt__» ⟨[.ref l, .ref b], []⟩)
      (fun A R s => s.heap.get? l = some { cls := .type "list", dict := dd, data := .seq items n, slots := sl } ∧ s.heap.get? b = some { cls := .type "list", dict := dd2, data := .seq items2 n2, slots := sl2 } ∧
        (∀ j (h1 : j < items.size) (h2 : j < items2.size), EqAt A.in1 s items[j] items2[j] (e j) ∧ RcOp .Gt A.in1 s items[j] items2[j] (c j)) ∧
        R (.ok (.ret (.bool (cw e c (decide (items2.size < items.size)) (min items.size items2.size) 0)))) s) := by
  intro prog w A R s h
  obtain ⟨hp, g, d, tk, os⟩ := s; obtain ⟨hl, hb, he, h⟩ := h
  have f3 := AutoSeq1.sub_list_list
  wp_walk using wpAny_loadPart' hl, wpAny_loadPart' hb
  exact ⟨plainId_quiet plain_eq_loop _, codeAny_builtin entry_eq_loop (by
    rw [Around.under_plainId plain_eq_loop _]
    exact gt_loopAt l b items items2 n n2 dd dd2 sl sl2 e c _ 0 rfl (Nat.zero_le _) prog w A R _ ⟨hl, hb, he, by simpa using h⟩)⟩
theorem RcOp.lists_gt {A : Around} {s : Shared} {l b : Addr} {items items2 : Array Value} {e c : Nat → Bool} (hl : s.heap.IsList l items) (hb : s.heap.IsList b items2) (hu : A.units < cLine)
    (he : ∀ j (h1 : j < items.size) (h2 : j < items2.size), EqAt A.in1 s items[j] items2[j] (e j) ∧ RcOp .Gt A.in1 s items[j] items2[j] (c j)) :
    RcOp .Gt A s (.ref l) (.ref b) (cw e c (decide (items2.size < items.size)) (min items.size items2.size) 0) := fun prog w E Q h => by
  obtain ⟨⟨cls, dd, data, sl⟩, ho, hc, n, hd⟩ := id hl
  obtain ⟨⟨cls2, dd2, data2, sl2⟩, ho2, hc2, n2, hd2⟩ := id hb
  simp only at hc hd hc2 hd2
  subst hc hd hc2 hd2
  exact richCompare_meets_room (op := .Gt) ⟨_, ho, rfl⟩ ⟨_, ho2, rfl⟩ F.slot_list_gt F.entry_list_gt (F.args_list_gt_2 _ _) (list_gtAt l b items items2 n n2 dd dd2 sl sl2 e c)
    ⟨ho, ho2, he, show Value.bool _ ≠ Value.notImplemented ∧ Q (.bool _) s from ⟨(fun x => nomatch x), h⟩⟩ hu
/-- the order of octets -/
noncomputable def ltS (a b : List UInt8) : Bool := decide (a.map UInt8.toNat < b.map UInt8.toNat)
/-- how a kind of text is ordered -/
structure TxCmp (g : Glo) (k : Kd) : Prop where
  lt : ∀ (P : PS) (δ : List Addr) (A : Around) (s : Shared) (v u : Value) (a b : List UInt8), g.Sees P δ v (.tx k a) → g.Sees P δ u (.tx k b) → RcOp .Lt A s v u (ltS a b)
  gt : ∀ (P : PS) (δ : List Addr) (A : Around) (s : Shared) (v u : Value) (a b : List UInt8), g.Sees P δ v (.tx k a) → g.Sees P δ u (.tx k b) → RcOp .Gt A s v u (ltS b a)
theorem txcmp_s {g : Glo} : TxCmp g .s where
  lt := fun P δ A s v u a b hv hu prog w E Q h => by
    obtain ⟨t, rfl⟩ := hv.tells
    obtain ⟨t', rfl⟩ := hu.tells
    refine richCompare_gives (op := .Lt) (T := "str") rfl rfl PyProof.Rows.slot_str_lt PyProof.Rows.entry_str_lt (PyProof.Rows.args_str_lt _ _) (PySem.gives_str_lt _ _ _ _) (fun x => nomatch x) ?_
    show Q (.bool (decide ((S8 a).cps.toList < (S8 b).cps.toList))) s
    rw [S8_list, S8_list]; exact h
  gt := fun P δ A s v u a b hv hu prog w E Q h => by
    obtain ⟨t, rfl⟩ := hv.tells
    obtain ⟨t', rfl⟩ := hu.tells
    refine richCompare_gives (op := .Gt) (T := "str") rfl rfl PyProof.Rows.slot_str_gt PyProof.Rows.entry_str_gt (PyProof.Rows.args_str_gt _ _) (PySem.gives_str_gt _ _ _ _) (fun x => nomatch x) ?_
    show Q (.bool (decide ((S8 b).cps.toList < (S8 a).cps.toList))) s
    rw [S8_list, S8_list]; exact h
/-- lists of octets in order -/
noncomputable def ltL : List (List UInt8) → List (List UInt8) → Bool
  | [], [] => false
  | [], _ :: _ => true
  | _ :: _, [] => false
  | a :: as, b :: bs => if a == b then ltL as bs else ltS a b
theorem cw_shift (e c : Nat → Bool) (fin : Bool) : ∀ (k i : Nat), cw e c fin k (i + 1) = cw (fun j => e (j + 1)) (fun j => c (j + 1)) fin k i
  | 0, _ => rfl
  | k + 1, i => by unfold cw; rw [cw_shift e c fin k (i + 1)]
theorem cw_lt : ∀ (as bs : List (List UInt8)), cw (fun j => as.getD j [] == bs.getD j []) (fun j => ltS (as.getD j []) (bs.getD j [])) (decide (as.length < bs.length)) (min as.length bs.length) 0 = ltL as bs
  | [], [] => rfl
  | [], _ :: _ => rfl
  | _ :: _, [] => rfl
  | a :: as, b :: bs => by
    have ih := cw_lt as bs
    have e1 : min (a :: as).length (b :: bs).length = min as.length bs.length + 1 := by simp
    rw [e1]
    unfold cw ltL
    rw [cw_shift]
    have e2 : decide ((a :: as).length < (b :: bs).length) = decide (as.length < bs.length) := by simp
    rw [e2]
    exact congrArg (fun z => if (a == b) = true then z else ltS a b) ih
theorem cw_gt : ∀ (as bs : List (List UInt8)), cw (fun j => as.getD j [] == bs.getD j []) (fun j => ltS (bs.getD j []) (as.getD j [])) (decide (bs.length < as.length)) (min as.length bs.length) 0 = ltL bs as
  | [], [] => rfl
  | [], _ :: _ => rfl
  | _ :: _, [] => rfl
  | a :: as, b :: bs => by
    have ih := cw_gt as bs
    have e1 : min (a :: as).length (b :: bs).length = min as.length bs.length + 1 := by simp
    rw [e1]
    unfold cw ltL
    rw [cw_shift]
    have e2 : decide ((b :: bs).length < (a :: as).length) = decide (bs.length < as.length) := by simp
    have e3 : (b == a) = (a == b) := BEq.comm
    rw [e2, e3]
    exact congrArg (fun z => if (a == b) = true then z else ltS b a) ih
section
variable {g : Glo} {R : RS} {P : PS} {δ : List Addr} {env : Env} {ρ : Loc} {σ : List MO} {n : Nat} {k : Kd}
theorem eqAt_tx {A : Around} {s : Shared} {v u : Value} {a b : List UInt8} (I : Inv g R P δ env ρ σ s.heap) (hA : A.units < cLine) (hv : g.Sees P δ v (.tx k a)) (hu : g.Sees P δ u (.tx k b)) : EqAt A s v u (a == b) :=
  EqAt.of_rc hv.noFl (fun e => by subst e; exact Cm.self I (cm_tx k a b) hv hu) (Cm.rc I (cm_tx k a b) (n := 0) hA hv hu)
theorem pair_at {A : Around} {s : Shared} {vs us : List Value} {as bs : List (List UInt8)} (C : TxCmp g k) (I : Inv g R P δ env ρ σ s.heap) (hA : A.units < cLine) (hv : g.SeesL P δ vs (as.map (.tx k))) (hu : g.SeesL P δ us (bs.map (.tx k))) (j : Nat) (h1 : j < vs.toArray.size) (h2 : j < us.toArray.size) :
    EqAt A s vs.toArray[j] us.toArray[j] (as.getD j [] == bs.getD j []) ∧ RcOp .Lt A s vs.toArray[j] us.toArray[j] (ltS (as.getD j []) (bs.getD j [])) ∧ RcOp .Gt A s vs.toArray[j] us.toArray[j] (ltS (bs.getD j []) (as.getD j [])) := by
  have l1 := hv.length
  have l2 := hu.length
  rw [List.length_map] at l1 l2
  rw [List.size_toArray] at h1 h2
  have s1 := hv.2 j vs[j] (.tx k (as.getD j [])) (List.getElem?_eq_getElem h1) (by rw [List.getElem?_map, List.getD_eq_getElem?_getD, List.getElem?_eq_getElem (by omega)]; rfl)
  have s2 := hu.2 j us[j] (.tx k (bs.getD j [])) (List.getElem?_eq_getElem h2) (by rw [List.getElem?_map, List.getD_eq_getElem?_getD, List.getElem?_eq_getElem (by omega)]; rfl)
  rw [List.getElem_toArray, List.getElem_toArray]
  exact ⟨eqAt_tx I hA s1 s2, C.lt P δ A s _ _ _ _ s1 s2, C.gt P δ A s _ _ _ _ s1 s2⟩
/-- two lists of texts in order -/
theorem rc_lists {A : Around} {s : Shared} {v u : Value} {as bs : List (List UInt8)} (C : TxCmp g k) (I : Inv g R P δ env ρ σ s.heap) (hA : A.in1.units < cLine) (hv : g.Sees P δ v (.list (as.map (.tx k)))) (hu : g.Sees P δ u (.list (bs.map (.tx k)))) :
    RcOp .Lt A s v u (ltL as bs) ∧ RcOp .Gt A s v u (ltL bs as) := by
  obtain ⟨l, vs, rfl, hl, h1⟩ := I.listOf (.inl rfl) hv
  obtain ⟨b, us, rfl, hb, h2⟩ := I.listOf (.inl rfl) hu
  have l1 := h1.length
  have l2 := h2.length
  rw [List.length_map] at l1 l2
  have hu0 : A.units < cLine := by have : A.units + 1 < cLine := hA; omega
  have p := pair_at (A := A.in1) C I hA h1 h2
  have e1 := RcOp.lists_lt hl hb hu0 fun j x y => ⟨(p j x y).1, (p j x y).2.1⟩
  have e2 := RcOp.lists_gt hl hb hu0 fun j x y => ⟨(p j x y).1, (p j x y).2.2⟩
  rw [List.size_toArray, List.size_toArray, l1, l2] at e1 e2
  rw [cw_lt] at e1
  rw [cw_gt] at e2
  exact ⟨e1, e2⟩
end
end Mine
end
section
open PySem PySem.W PyProof.Rows PySem.Calls PySem.SeqAt
set_option Elab.async false
set_option linter.unusedVariables false
set_option maxRecDepth 100000
namespace Mine
noncomputable def lsV (k : Kd) (as : List (List UInt8)) : V := .list (as.map (.tx k))
noncomputable def lssV (k : Kd) (xss : List (List (List UInt8))) : V := .list (xss.map (lsV k))
noncomputable def minS (cur x : List (List UInt8)) : List (List UInt8) := if ltL x cur then x else cur
noncomputable def maxS (cur x : List (List UInt8)) : List (List UInt8) := if ltL cur x then x else cur
section
variable {g : Glo} {R : RS} {P : PS} {δ : List Addr} {env : Env} {ρ : Loc} {σ : List MO} {n : Nat} {k : Kd}
theorem drop_fold {α β : Type} (f : β → α → β) (b : β) {l : List α} {i : Nat} {x : α} (e : l[i]? = some x) : (l.drop i).foldl f b = (l.drop (i + 1)).foldl f (f b x) := by
  obtain ⟨hi, rfl⟩ := List.getElem?_eq_some_iff.mp e
  rw [List.drop_eq_getElem_cons hi, List.foldl_cons]
theorem min_loop {S It l : Addr} {xss : List (List (List UInt8))} {A : Around} {Rr : Result → Shared → Prop} (C : TxCmp g k) (hA : AOk A (n + 2) R env) (hSI : S ≠ It) :
    ∀ (r i : Nat) (s : Shared) (vb : Value) (cur : List (List UInt8)) (c : Nat), xss.length - i = r → i ≤ xss.length → Inv g R P δ env ρ σ s.heap → Free R P δ env It → Free R P δ env S → s.heap.IsListIter It l i →
      s.heap.get? S = some { cls := .type "list", dict := none, data := .seq #[vb, vb] c, slots := #[] } → g.Sees P δ vb (lsV k cur) → g.Sees P δ (.ref l) (lssV k xss) →
      (∀ v h', Inv g R P δ env ρ σ h' → g.Sees P δ v (lsV k ((xss.drop i).foldl minS cur)) → Rr (.ok (.ret v)) { s with heap := h' }) →
      codeAny (model g.prog g.w) A (.builtin "min.loop" ⟨[.ref It, .none, .ref S], []⟩) Rr s := by
  have hname : (toString "min" ++ toString ".loop" : String) = "min.loop" := by decide
  intro r
  induction r with
  | zero =>
    intro i s vb cur c hr hi I fI fS hit hS hvb hl hR
    obtain ⟨l', vs, e, hls, hvs⟩ := I.listOf (.inl rfl) hl
    cases e
    have hlen := hvs.length
    rw [List.length_map] at hlen
    refine codeAny_builtin F.entry_min_loop ?_
    rw [Around.under_plainId F.plain_min_loop _]
    show wpAny _ A.in1 (seqItems? (.ref S) >>= _) _ _ s
    refine wpAny_bind (wpAny_seqItems hS rfl ?_)
    show wpAny _ A.in1 (tryCatch (pyNext (.ref It)) _ >>= _) _ _ s
    refine wpAny_bind (wpAny_tryCatch (wpAny_pyNext_list_end hA.handled hit hls (by simp; omega) fun h₁ hk₁ => ?_))
    have hS₁ := hk₁ S _ hSI hS
    have I₁ : Inv g R P δ env ρ σ h₁ := I.keeps fun b o kk e => hk₁ b o (fI.keep kk) e
    show wpAny _ A.in1 (updateSeq S (fun _ => #[]) >>= _) _ _ _
    refine wpAny_bind ?_
    refine wpAny_updateSeq hS₁ rfl (wpAny_bind (wpAny_letGo (wpAny_pure ?_)))
    refine hR vb _ (I₁.sameBut fS (Heap.SameBut.update ..)) ?_
    rw [List.drop_of_length_le (by omega)]; exact hvb
  | succ r ih =>
    intro i s vb cur c hr hi I fI fS hit hS hvb hl hR
    obtain ⟨l', vs, e, hls, hvs⟩ := I.listOf (.inl rfl) hl
    cases e
    have hlen := hvs.length
    rw [List.length_map] at hlen
    have hlt : i < xss.length := by omega
    have hx : xss[i]? = some xss[i] := List.getElem?_eq_getElem hlt
    obtain ⟨v, hv, hsv⟩ := hvs.get (i := i) (x := lsV k xss[i]) (by rw [List.getElem?_map, hx]; rfl)
    refine codeAny_builtin F.entry_min_loop ?_
    rw [Around.under_plainId F.plain_min_loop _]
    show wpAny _ A.in1 (seqItems? (.ref S) >>= _) _ _ s
    refine wpAny_bind (wpAny_seqItems hS rfl ?_)
    show wpAny _ A.in1 (tryCatch (pyNext (.ref It)) _ >>= _) _ _ s
    refine wpAny_bind (wpAny_tryCatch (wpAny_pyNext_list_item hit hls (x := v) (by simpa using hv) fun h₁ hit₁ hs₁ => ?_))
    have hS₁ := (hs₁.2 S hSI).trans hS
    have I₁ := I.sameBut fI hs₁
    have hu : A.in1.in1.units < cLine := by have := hA.units; show A.units + 1 + 1 < 9900; omega
    show wpAny _ A.in1 (tryCatch (holding [v, v] (richCompare .Lt v vb >>= _)) _ >>= _) _ _ _
    refine wpAny_bind (wpAny_tryCatch (wpAny_holding (wpAny_bind ((rc_lists (s := { s with heap := h₁ }) (A := A.in1) C I₁ hu hsv hvb).1 g.prog g.w _ _ ?_))))
    refine wpAny_bind (wpAny_holding (wpAny_truthy_bool ?_))
    refine wpAny_bind (wpAny_letGo (wpAny_pure ?_))
    rw [drop_fold minS cur hx] at hR
    cases hb : ltL xss[i] cur with
    | true =>
      have hm : minS cur xss[i] = xss[i] := by unfold minS; rw [if_pos hb]
      rw [hm] at hR
      simp only [if_true]
      refine wpAny_bind ?_
      refine wpAny_updateSeq hS₁ rfl (wpAny_bind (wpAny_letGo ?_))
      rw [hname]
      have hSu : Heap.SameBut S h₁ _ := Heap.SameBut.update h₁ S (Obj.mapSeq fun _ => #[v, v])
      refine wpAny_pure ⟨plainId_quiet F.plain_min_loop _, ih (i + 1) _ v xss[i] _ (by omega) hlt (I₁.sameBut fS hSu) fI fS ?_ (Heap.get?_update_self _ hS₁ rfl) hsv hl fun v' h' I' hv' => hR v' h' I' hv'⟩
      obtain ⟨o, ho, r⟩ := hit₁
      exact ⟨o, (hSu.2 It (Ne.symm hSI)).trans ho, r⟩
    | false =>
      have hm : minS cur xss[i] = cur := by unfold minS; rw [if_neg (by rw [hb]; decide)]
      rw [hm] at hR
      simp only [Bool.false_eq_true, if_false]
      refine wpAny_bind (wpAny_letGo ?_)
      rw [hname]
      exact wpAny_pure ⟨plainId_quiet F.plain_min_loop _, ih (i + 1) _ vb cur c (by omega) hlt I₁ fI fS hit₁ hS₁ hvb hl fun v' h' I' hv' => hR v' h' I' hv'⟩
theorem op_min {x : List (List UInt8)} {xss : List (List (List UInt8))} (C : TxCmp g k) : Op g (n + 4) σ [lssV k (x :: xss)] (fun vs => call (.builtin "min") vs) (fun P δ v => g.Sees P δ v (lsV k (xss.foldl minS x))) σ := .one fun env ρ A R P δ s Q v hA I hv h => by
  have hname : (toString "min" ++ toString ".loop" : String) = "min.loop" := by decide
  obtain ⟨l, vs, rfl, hls, hvs⟩ := I.listOf (.inl rfl) hv
  obtain ⟨v, us, rfl, hs1, hs2⟩ := SeesL.cons_inv hvs
  refine call_function_tree F.kind_min F.plain_min F.entry_min (F.args_min1 _) ?_
  show wpAny _ A.in1 (Builtin.Builtins.bindParams "min" ["key", "default"] 0 ⟨[], []⟩ >>= _) _ _ s
  refine wpAny_bind (wpAny_of_eq (show Builtin.Builtins.bindParams "min" ["key", "default"] 0 ⟨[], []⟩ = pure [none, none] from rfl) ?_)
  refine wpAny_bind (wpAny_pure ?_)
  refine wpAny_bind (wpAny_pyIter_list hls ?_)
  refine wpAny_bind (wpAny_newObj_type ?_)
  rw [hname]
  generalize hH1 : s.heap.push { cls := .type "list_iterator", data := .fields #[.ref l, .int 0 0] } = H1
  have k1 : ∀ b o, s.heap.get? b = some o → H1.get? b = some o := fun b o e => hH1 ▸ Heap.get?_push_of_some _ e
  have hit : H1.get? s.heap.objs.size = some { cls := .type "list_iterator", data := .fields #[.ref l, .int 0 0] } := hH1 ▸ Heap.get?_push_size _ rfl
  have k2 : ∀ b o, H1.get? b = some o → (H1.push { cls := .type "list", dict := none, data := .seq ([] : List Value).toArray, slots := #[] }).get? b = some o := fun b o e => Heap.get?_push_of_some _ e
  have I₁ := I.grows k1
  have I₂ := I₁.grows k2
  have fI := I.free (get_size_none s.heap)
  have fS := I₁.free (get_size_none H1)
  have hSI : H1.objs.size ≠ s.heap.objs.size := by rw [← hH1, Heap.size_push]; omega
  refine wpAny_pure ⟨plainId_quiet F.plain_min_loop _, codeAny_builtin F.entry_min_loop ?_⟩
  rw [Around.under_plainId F.plain_min_loop _]
  have hS₂ : (H1.push { cls := .type "list", dict := none, data := .seq ([] : List Value).toArray, slots := #[] }).get? H1.objs.size = some { cls := .type "list", dict := none, data := .seq #[] 0, slots := #[] } := Heap.get?_push_size _ rfl
  generalize (H1.push { cls := .type "list", dict := none, data := .seq ([] : List Value).toArray, slots := #[] }) = H2 at k2 I₂ hS₂ ⊢
  obtain ⟨l', vs', e, hls₂, hvs₂⟩ := I₂.listOf (.inl rfl) hv
  cases e
  obtain ⟨v₂, us₂, rfl, hs1₂, hs2₂⟩ := SeesL.cons_inv hvs₂
  show wpAny _ A.in1 (seqItems? (.ref H1.objs.size) >>= _) _ _ _
  refine wpAny_bind (wpAny_seqItems hS₂ rfl ?_)
  show wpAny _ A.in1 (tryCatch (pyNext (.ref s.heap.objs.size)) _ >>= _) _ _ _
  refine wpAny_bind (wpAny_tryCatch (wpAny_pyNext_list_item (i := 0) ⟨_, k2 _ _ hit, rfl, rfl⟩ hls₂ (x := v₂) rfl fun h₃ hit₃ hs₃ => ?_))
  have hS₃ := (hs₃.2 _ hSI).trans hS₂
  have I₃ := I₂.sameBut fI hs₃
  show wpAny _ A.in1 (updateSeq H1.objs.size (fun _ => #[v₂, v₂]) >>= _) _ _ _
  refine wpAny_bind ?_
  refine wpAny_updateSeq hS₃ rfl ?_
  rw [hname]
  have hSu : Heap.SameBut H1.objs.size h₃ _ := Heap.SameBut.update h₃ H1.objs.size (Obj.mapSeq fun _ => #[v₂, v₂])
  refine wpAny_pure ⟨plainId_quiet F.plain_min_loop _, min_loop (n := n) (S := H1.objs.size) (It := s.heap.objs.size) (l := l) (xss := x :: xss) (ρ := ρ) (σ := σ) C (hA.less (by omega)) hSI _ 1 _ v₂ x _ rfl (by simp) (I₃.sameBut fS hSu) fI fS ?_ (Heap.get?_update_self _ hS₃ rfl) hs1₂ hv fun v' h' I' hv' => ?_⟩
  · obtain ⟨o, ho, r⟩ := hit₃
    exact ⟨o, (hSu.2 _ (Ne.symm hSI)).trans ho, r⟩
  · exact h v' P δ h' s.toks (fun _ _ z => z) (List.prefix_refl _) I' hv'
theorem max_loop {S It l : Addr} {xss : List (List (List UInt8))} {A : Around} {Rr : Result → Shared → Prop} (C : TxCmp g k) (hA : AOk A (n + 2) R env) (hSI : S ≠ It) :
    ∀ (r i : Nat) (s : Shared) (vb : Value) (cur : List (List UInt8)) (c : Nat), xss.length - i = r → i ≤ xss.length → Inv g R P δ env ρ σ s.heap → Free R P δ env It → Free R P δ env S → s.heap.IsListIter It l i →
      s.heap.get? S = some { cls := .type "list", dict := none, data := .seq #[vb, vb] c, slots := #[] } → g.Sees P δ vb (lsV k cur) → g.Sees P δ (.ref l) (lssV k xss) →
      (∀ v h', Inv g R P δ env ρ σ h' → g.Sees P δ v (lsV k ((xss.drop i).foldl maxS cur)) → Rr (.ok (.ret v)) { s with heap := h' }) →
      codeAny (model g.prog g.w) A (.builtin "max.loop" ⟨[.ref It, .none, .ref S], []⟩) Rr s := by
  have hname : (toString "max" ++ toString ".loop" : String) = "max.loop" := by decide
  intro r
  induction r with
  | zero =>
    intro i s vb cur c hr hi I fI fS hit hS hvb hl hR
    obtain ⟨l', vs, e, hls, hvs⟩ := I.listOf (.inl rfl) hl
    cases e
    have hlen := hvs.length
    rw [List.length_map] at hlen
    refine codeAny_builtin F.entry_max_loop ?_
    rw [Around.under_plainId F.plain_max_loop _]
    show wpAny _ A.in1 (seqItems? (.ref S) >>= _) _ _ s
    refine wpAny_bind (wpAny_seqItems hS rfl ?_)
    show wpAny _ A.in1 (tryCatch (pyNext (.ref It)) _ >>= _) _ _ s
    refine wpAny_bind (wpAny_tryCatch (wpAny_pyNext_list_end hA.handled hit hls (by simp; omega) fun h₁ hk₁ => ?_))
    have hS₁ := hk₁ S _ hSI hS
    have I₁ : Inv g R P δ env ρ σ h₁ := I.keeps fun b o kk e => hk₁ b o (fI.keep kk) e
    show wpAny _ A.in1 (updateSeq S (fun _ => #[]) >>= _) _ _ _
    refine wpAny_bind ?_
    refine wpAny_updateSeq hS₁ rfl (wpAny_bind (wpAny_letGo (wpAny_pure ?_)))
    refine hR vb _ (I₁.sameBut fS (Heap.SameBut.update ..)) ?_
    rw [List.drop_of_length_le (by omega)]; exact hvb
  | succ r ih =>
    intro i s vb cur c hr hi I fI fS hit hS hvb hl hR
    obtain ⟨l', vs, e, hls, hvs⟩ := I.listOf (.inl rfl) hl
    cases e
    have hlen := hvs.length
    rw [List.length_map] at hlen
    have hlt : i < xss.length := by omega
    have hx : xss[i]? = some xss[i] := List.getElem?_eq_getElem hlt
    obtain ⟨v, hv, hsv⟩ := hvs.get (i := i) (x := lsV k xss[i]) (by rw [List.getElem?_map, hx]; rfl)
    refine codeAny_builtin F.entry_max_loop ?_
    rw [Around.under_plainId F.plain_max_loop _]
    show wpAny _ A.in1 (seqItems? (.ref S) >>= _) _ _ s
    refine wpAny_bind (wpAny_seqItems hS rfl ?_)
    show wpAny _ A.in1 (tryCatch (pyNext (.ref It)) _ >>= _) _ _ s
    refine wpAny_bind (wpAny_tryCatch (wpAny_pyNext_list_item hit hls (x := v) (by simpa using hv) fun h₁ hit₁ hs₁ => ?_))
    have hS₁ := (hs₁.2 S hSI).trans hS
    have I₁ := I.sameBut fI hs₁
    have hu : A.in1.in1.units < cLine := by have := hA.units; show A.units + 1 + 1 < 9900; omega
    show wpAny _ A.in1 (tryCatch (holding [v, v] (richCompare .Gt v vb >>= _)) _ >>= _) _ _ _
    refine wpAny_bind (wpAny_tryCatch (wpAny_holding (wpAny_bind ((rc_lists (s := { s with heap := h₁ }) (A := A.in1) C I₁ hu hsv hvb).2 g.prog g.w _ _ ?_))))
    refine wpAny_bind (wpAny_holding (wpAny_truthy_bool ?_))
    refine wpAny_bind (wpAny_letGo (wpAny_pure ?_))
    rw [drop_fold maxS cur hx] at hR
    cases hb : ltL cur xss[i] with
    | true =>
      have hm : maxS cur xss[i] = xss[i] := by unfold maxS; rw [if_pos hb]
      rw [hm] at hR
      simp only [if_true]
      refine wpAny_bind ?_
      refine wpAny_updateSeq hS₁ rfl (wpAny_bind (wpAny_letGo ?_))
      rw [hname]
      have hSu : Heap.SameBut S h₁ _ := Heap.SameBut.update h₁ S (Obj.mapSeq fun _ => #[v, v])
      refine wpAny_pure ⟨plainId_quiet F.plain_max_loop _, ih (i + 1) _ v xss[i] _ (by omega) hlt (I₁.sameBut fS hSu) fI fS ?_ (Heap.get?_update_self _ hS₁ rfl) hsv hl fun v' h' I' hv' => hR v' h' I' hv'⟩
      obtain ⟨o, ho, r⟩ := hit₁
      exact ⟨o, (hSu.2 It (Ne.symm hSI)).trans ho, r⟩
    | false =>
      have hm : maxS cur xss[i] = cur := by unfold maxS; rw [if_neg (by rw [hb]; decide)]
      rw [hm] at hR
      simp only [Bool.false_eq_true, if_false]
      refine wpAny_bind (wpAny_letGo ?_)
      rw [hname]
      exact wpAny_pure ⟨plainId_quiet F.plain_max_loop _, ih (i + 1) _ vb cur c (by omega) hlt I₁ fI fS hit₁ hS₁ hvb hl fun v' h' I' hv' => hR v' h' I' hv'⟩
theorem op_max {x : List (List UInt8)} {xss : List (List (List UInt8))} (C : TxCmp g k) : Op g (n + 4) σ [lssV k (x :: xss)] (fun vs => call (.builtin "max") vs) (fun P δ v => g.Sees P δ v (lsV k (xss.foldl maxS x))) σ := .one fun env ρ A R P δ s Q v hA I hv h => by
  have hname : (toString "max" ++ toString ".loop" : String) = "max.loop" := by decide
  obtain ⟨l, vs, rfl, hls, hvs⟩ := I.listOf (.inl rfl) hv
  obtain ⟨v, us, rfl, hs1, hs2⟩ := SeesL.cons_inv hvs
  refine call_function_tree F.kind_max F.plain_max F.entry_max (F.args_max1 _) ?_
  show wpAny _ A.in1 (Builtin.Builtins.bindParams "max" ["key", "default"] 0 ⟨[], []⟩ >>= _) _ _ s
  refine wpAny_bind (wpAny_of_eq (show Builtin.Builtins.bindParams "max" ["key", "default"] 0 ⟨[], []⟩ = pure [none, none] from rfl) ?_)
  refine wpAny_bind (wpAny_pure ?_)
  refine wpAny_bind (wpAny_pyIter_list hls ?_)
  refine wpAny_bind (wpAny_newObj_type ?_)
  rw [hname]
  generalize hH1 : s.heap.push { cls := .type "list_iterator", data := .fields #[.ref l, .int 0 0] } = H1
  have k1 : ∀ b o, s.heap.get? b = some o → H1.get? b = some o := fun b o e => hH1 ▸ Heap.get?_push_of_some _ e
  have hit : H1.get? s.heap.objs.size = some { cls := .type "list_iterator", data := .fields #[.ref l, .int 0 0] } := hH1 ▸ Heap.get?_push_size _ rfl
  have k2 : ∀ b o, H1.get? b = some o → (H1.push { cls := .type "list", dict := none, data := .seq ([] : List Value).toArray, slots := #[] }).get? b = some o := fun b o e => Heap.get?_push_of_some _ e
  have I₁ := I.grows k1
  have I₂ := I₁.grows k2
  have fI := I.free (get_size_none s.heap)
  have fS := I₁.free (get_size_none H1)
  have hSI : H1.objs.size ≠ s.heap.objs.size := by rw [← hH1, Heap.size_push]; omega
  refine wpAny_pure ⟨plainId_quiet F.plain_max_loop _, codeAny_builtin F.entry_max_loop ?_⟩
  rw [Around.under_plainId F.plain_max_loop _]
  have hS₂ : (H1.push { cls := .type "list", dict := none, data := .seq ([] : List Value).toArray, slots := #[] }).get? H1.objs.size = some { cls := .type "list", dict := none, data := .seq #[] 0, slots := #[] } := Heap.get?_push_size _ rfl
  generalize (H1.push { cls := .type "list", dict := none, data := .seq ([] : List Value).toArray, slots := #[] }) = H2 at k2 I₂ hS₂ ⊢
  obtain ⟨l', vs', e, hls₂, hvs₂⟩ := I₂.listOf (.inl rfl) hv
  cases e
  obtain ⟨v₂, us₂, rfl, hs1₂, hs2₂⟩ := SeesL.cons_inv hvs₂
  show wpAny _ A.in1 (seqItems? (.ref H1.objs.size) >>= _) _ _ _
  refine wpAny_bind (wpAny_seqItems hS₂ rfl ?_)
  show wpAny _ A.in1 (tryCatch (pyNext (.ref s.heap.objs.size)) _ >>= _) _ _ _
  refine wpAny_bind (wpAny_tryCatch (wpAny_pyNext_list_item (i := 0) ⟨_, k2 _ _ hit, rfl, rfl⟩ hls₂ (x := v₂) rfl fun h₃ hit₃ hs₃ => ?_))
  have hS₃ := (hs₃.2 _ hSI).trans hS₂
  have I₃ := I₂.sameBut fI hs₃
  show wpAny _ A.in1 (updateSeq H1.objs.size (fun _ => #[v₂, v₂]) >>= _) _ _ _
  refine wpAny_bind ?_
  refine wpAny_updateSeq hS₃ rfl ?_
  rw [hname]
  have hSu : Heap.SameBut H1.objs.size h₃ _ := Heap.SameBut.update h₃ H1.objs.size (Obj.mapSeq fun _ => #[v₂, v₂])
  refine wpAny_pure ⟨plainId_quiet F.plain_max_loop _, max_loop (n := n) (S := H1.objs.size) (It := s.heap.objs.size) (l := l) (xss := x :: xss) (ρ := ρ) (σ := σ) C (hA.less (by omega)) hSI _ 1 _ v₂ x _ rfl (by simp) (I₃.sameBut fS hSu) fI fS ?_ (Heap.get?_update_self _ hS₃ rfl) hs1₂ hv fun v' h' I' hv' => ?_⟩
  · obtain ⟨o, ho, r⟩ := hit₃
    exact ⟨o, (hSu.2 _ (Ne.symm hSI)).trans ho, r⟩
  · exact h v' P δ h' s.toks (fun _ _ z => z) (List.prefix_refl _) I' hv'
end
end Mine
end
section
open PySem PySem.W PyProof.Rows PySem.Calls PySem.SeqAt
set_option Elab.async false
set_option linter.unusedVariables false
set_option maxRecDepth 100000
namespace Mine
section
variable {g : Glo} {R : RS} {P P' : PS} {δ δ' : List Addr} {env : Env} {ρ : Loc} {σ σ' : List MO} {n : Nat}
/-- a dict handed back that will not change any more -/
theorem fn_freeze {f : Str} {args : List V} {xs : List (Str × V)} {j : List MO} (F : Fn g n f args σ (.cell σ.length) (σ ++ .dict xs :: j)) (hx : ∀ m (i : Nat) x, xs[i]? = some x → Fl m x.2) : Fn g n f args σ (.fdict xs) σ := by
  obtain ⟨a, o, fd, h1, h2, h3, h4⟩ := F
  refine ⟨a, o, fd, h1, h2, h3, ?_⟩
  intro env ρ A R P δ s Q vs hA I hvs k
  refine h4 env ρ A R P δ s Q vs hA I hvs fun v P' δ' h' tk' le pr I' hs => ?_
  have hlen := I.len
  obtain ⟨c, rfl, hc⟩ := hs.tells
  have hm := I'.objs σ.length c (.dict xs) hc (by simp)
  obtain ⟨kvs, ⟨oc, es, ep, hoc, r⟩, hsd⟩ := hm
  have hsd : g.SeesD P' (δ'.take σ.length) kvs xs := ⟨hsd.1, fun i v x a b => (hsd.2 i v x a b).cut (hx _ i x b)⟩
  have hmem : c ∈ δ' := List.mem_of_getElem? hc
  have hnot : c ∉ δ'.take σ.length := fun hin => by
    obtain ⟨i, hi⟩ := List.mem_iff_getElem?.mp hin
    have hlt : i < σ.length := by
      have := (List.getElem?_eq_some_iff.mp hi).1
      rw [List.length_take] at this; omega
    rw [List.getElem?_take, if_pos hlt] at hi
    obtain ⟨l1, e1⟩ := List.getElem?_eq_some_iff.mp hi
    obtain ⟨l2, e2⟩ := List.getElem?_eq_some_iff.mp hc
    exact List.pairwise_iff_getElem.mp I'.dN i σ.length l1 l2 hlt (e1.trans e2.symm)
  have J : Inv g R P' (δ'.take σ.length) env ρ σ h' := I'.cut (fun x y e => by
    obtain ⟨m, _, hm⟩ := I.loc
    obtain ⟨v, hs, _⟩ := hm x y e
    have := hs.fl
    rwa [hlen] at this) fun i o ho => by
    obtain ⟨c, hc⟩ := get_of_len hlen ho
    have := (I.objs i c o hc ho).fl
    rwa [hlen] at this
  have hfree : Free R P' (δ'.take σ.length) env c := ⟨fun o r => I'.dR c o hmem r, fun o p => I'.dP c o hmem p, hnot, fun hs => I'.offD c hs hmem⟩
  have K := J.pin hfree hoc
  refine k (.ref c) _ (δ'.take σ.length) h' tk' (fun b o z => .inl (le b o z)) ?_ K (.mkDict pin_at ⟨es, ep, r⟩ (hsd.mono pin_le (List.prefix_refl _)))
  obtain ⟨t, rfl⟩ := pr
  rw [List.take_append_of_le_length (by omega)]
  exact ⟨[], by rw [List.append_nil, List.take_of_length_le (by omega)]⟩
-- numbers in lists
theorem op_min_two {a b : Int} : Op g n σ [.int a, .int b] (fun vs => call (.builtin "min") vs) (fun P δ v => g.Sees P δ v (.int (min a b))) σ := .two fun env ρ A R P δ s Q v u hA I hv hu h => by
  obtain ⟨t, rfl⟩ := hv.tells
  obtain ⟨t', rfl⟩ := hu.tells
  refine min_two_ints hA.handled fun h' tk hk => h _ P δ h' tk (fun _ _ z => z) (List.prefix_refl _) (I.grows hk) ?_
  by_cases hb : b < a
  · rw [if_pos hb, show min a b = b by omega]; exact .int _ _
  · rw [if_neg hb, show min a b = a by omega]; exact .int _ _
theorem ints_seen : ∀ {vs : List Value} (xs : List Int), g.SeesL P δ vs (xs.map .int) → ∃ l : List (Int × Tok), vs.toArray = intItems l.toArray ∧ l.map (·.1) = xs
  | vs, [], h => ⟨[], by rw [SeesL.nil_inv h]; simp [intItems], rfl⟩
  | vs, x :: xs, h => by
    obtain ⟨v, us, rfl, h1, h2⟩ := SeesL.cons_inv h
    obtain ⟨t, rfl⟩ := h1.tells
    obtain ⟨l, e1, e2⟩ := ints_seen xs h2
    refine ⟨(x, t) :: l, ?_, by rw [List.map_cons, e2]⟩
    have e1 := congrArg Array.toList e1
    simp [intItems] at e1 ⊢
    exact e1
theorem argBest_min (val : Nat → Int) : ∀ k : Nat, argBest (fun i j => decide (val i < val j)) k ≤ k ∧ ∀ j, j ≤ k → val (argBest (fun i j => decide (val i < val j)) k) ≤ val j
  | 0 => ⟨Nat.le_refl _, fun j hj => by rw [Nat.le_zero.mp hj]; exact Int.le_refl _⟩
  | k + 1 => by
    obtain ⟨h1, h2⟩ := argBest_min val k
    unfold argBest
    by_cases hc : val (k + 1) < val (argBest (fun i j => decide (val i < val j)) k)
    · rw [if_pos (decide_eq_true hc)]
      refine ⟨Nat.le_refl _, fun j hj => ?_⟩
      rcases Nat.lt_or_ge j (k + 1) with h | h
      · have := h2 j (by omega); omega
      · have : j = k + 1 := by omega
        subst this; exact Int.le_refl _
    · rw [if_neg (by simpa using hc)]
      refine ⟨by omega, fun j hj => ?_⟩
      rcases Nat.lt_or_ge j (k + 1) with h | h
      · exact h2 j (by omega)
      · have : j = k + 1 := by omega
        subst this; omega
/-- the least of some numbers -/
theorem op_min_ints {xs : List Int} {m : Int} (hm : m ∈ xs) (hle : ∀ x ∈ xs, m ≤ x) : Op g n σ [.list (xs.map .int)] (fun vs => call (.builtin "min") vs) (fun P δ v => g.Sees P δ v (.int m)) σ := .one fun env ρ A R P δ s Q v hA I hv h => by
  obtain ⟨l, vs, rfl, hl, hvs⟩ := I.listOf (.inl rfl) hv
  obtain ⟨ts, e1, e2⟩ := ints_seen xs hvs
  rw [e1] at hl
  have hsz : ts.length = xs.length := by rw [← e2, List.length_map]
  have hpos : 0 < xs.length := List.length_pos_of_mem hm
  refine min_intList hA.handled hl (by rw [List.size_toArray]; omega) fun v h' tk hv hk => ?_
  obtain ⟨t, rfl⟩ := intItems_at hv
  have hnum : ∀ j, j < xs.length → ∃ x, xs[j]? = some x ∧ numAt ts.toArray j = x := fun j hj => by
    refine ⟨xs[j], List.getElem?_eq_getElem hj, ?_⟩
    have : xs[j]? = (ts.map (·.1))[j]? := by rw [e2]
    rw [List.getElem?_map, List.getElem?_eq_getElem hj] at this
    unfold numAt
    rw [List.getElem?_toArray, ← this]; rfl
  obtain ⟨b1, b2⟩ := argBest_min (numAt ts.toArray) (ts.toArray.size - 1)
  rw [List.size_toArray] at b1 b2
  rw [List.size_toArray] at *
  obtain ⟨x, hx, ex⟩ := hnum (argBest (fun i j => decide (numAt ts.toArray i < numAt ts.toArray j)) (ts.length - 1)) (by omega)
  have e3 : x = m := by
    obtain ⟨j, hj⟩ := List.mem_iff_getElem?.mp hm
    have hjl := (List.getElem?_eq_some_iff.mp hj).1
    obtain ⟨y, hy, ey⟩ := hnum j hjl
    rw [hj] at hy
    cases hy
    have h1 := b2 j (by omega)
    have h2 := hle x (List.mem_of_getElem? hx)
    rw [ex, ey] at h1
    omega
  rw [ex, e3]
  exact h _ P δ h' tk (fun _ _ z => z) (List.prefix_refl _) (I.grows hk) (.int _ _)
theorem preSum_sum : ∀ (ts : List (Int × Tok)) (k : Nat), k ≤ ts.length → preSum (numAt ts.toArray) k = ((ts.map (·.1)).take k).sum
  | ts, 0, _ => by simp [preSum]
  | ts, k + 1, hk => by
    have ih := preSum_sum ts k (by omega)
    unfold preSum
    have : (ts.map (·.1))[k]? = some ts[k].1 := by rw [List.getElem?_map, List.getElem?_eq_getElem (by omega)]; rfl
    rw [ih, List.take_add_one, this]
    unfold numAt
    rw [List.getElem?_toArray, List.getElem?_eq_getElem (by omega)]
    simp
theorem op_sum_ints {xs : List Int} : Op g n σ [.list (xs.map .int)] (fun vs => call (.builtin "sum") vs) (fun P δ v => g.Sees P δ v (.int xs.sum)) σ := .one fun env ρ A R P δ s Q v hA I hv h => by
  obtain ⟨l, vs, rfl, hl, hvs⟩ := I.listOf (.inl rfl) hv
  obtain ⟨ts, e1, e2⟩ := ints_seen xs hvs
  rw [e1] at hl
  refine call_sum_walkG (iter_intList hl fun s₂ e st hfp hlI => ?_)
  subst e
  refine ⟨_, _, _, _, _, _, numAt ts.toArray, rfl, Walks.list (A := A.in1) hA.handled _ l hlI (intItems ts.toArray), st, hfp, (fun _ _ => intItems_at), fun h' tk t' hk => ?_⟩
  have e3 : preSum (numAt ts.toArray) (intItems ts.toArray).size = xs.sum := by
    have : (intItems ts.toArray).size = ts.length := by simp [intItems]
    rw [this, preSum_sum ts _ (Nat.le_refl _), List.take_of_length_le (by rw [List.length_map]; exact Nat.le_refl _), e2]
  rw [e3]
  exact h _ P δ h' tk (fun _ _ z => z) (List.prefix_refl _) (I.grows (old_kept hk)) (.int _ _)
theorem anyB (c : Bool) : ∀ bs : List Bool, bs.any ((fun y => match y with | .bool b => b == c | _ => false) ∘ Value.bool) = bs.contains c
  | [] => rfl
  | b :: bs => by
    rw [List.any_cons, List.contains_cons, anyB c bs]
    have : (c == b) = (b == c) := BEq.comm
    rw [this]; rfl
/-- a truth value among others -/
theorem op_in_bools {x : V} {bs : List Bool} {c : Bool} (hx : LV σ x (bs.map .bool)) : Op2 g n σ (compareOp .In) (.bool c) x (.bool (bs.contains c)) σ := .of fun env ρ A R P δ s Q v u hA I hv hu h => by
  obtain rfl := hv.tells
  obtain ⟨l, vs, rfl, hl, hvs⟩ := I.listOf hx hu
  have hb : ∀ {vs : List Value} (bs : List Bool), g.SeesL P δ vs (bs.map .bool) → vs = bs.map Value.bool := by
    intro vs bs
    induction bs generalizing vs with
    | nil => intro h; exact SeesL.nil_inv h
    | cons b bs ih =>
      intro h
      obtain ⟨v, us, rfl, h1, h2⟩ := SeesL.cons_inv h
      rw [ih h2]
      obtain rfl := h1.tells
      rfl
  obtain rfl := hb bs hvs
  refine in_listAt (fun y => match y with | .bool b => b == c | _ => false) hl (fun y hy => ?_) ?_
  · have hy : y ∈ bs.map Value.bool := by simpa using hy
    obtain ⟨b, _, rfl⟩ := List.mem_map.mp hy
    exact EqAt.of_rc rfl (fun e => by cases e; exact beq_self_eq_true _) (Cm.rc I (Cm.bool 0 b c) (n := 0) (by have := hA.units; show A.units + 1 + 0 < 9900; omega) (.bool b) (.bool c))
  · have e : (bs.map Value.bool).toArray.any (fun y => match y with | .bool b => b == c | _ => false) = bs.contains c := by
      rw [List.any_toArray, List.any_map]
      exact anyB c bs
    rw [e]
    exact stay s.toks I h (.bool _)
end
end Mine
end
section
open PySem PySem.W PyProof.Rows
set_option Elab.async false
namespace Mine
theorem vlen1 {vs : List Value} (h : vs.length = 1) : ∃ a, vs = [a] := List.length_eq_one_iff.mp h
theorem vlenS {n : Nat} {vs : List Value} (h : vs.length = n + 1) : ∃ a us, vs = a :: us ∧ us.length = n := by
  cases vs with
  | nil => cases h
  | cons a us => exact ⟨a, us, rfl, Nat.succ.inj h⟩
theorem vlen2 {vs : List Value} (h : vs.length = 2) : ∃ a b, vs = [a, b] := by
  obtain ⟨a, us, rfl, h2⟩ := vlenS h
  obtain ⟨b, rfl⟩ := vlen1 h2
  exact ⟨a, b, rfl⟩
theorem vlen3 {vs : List Value} (h : vs.length = 3) : ∃ a b c, vs = [a, b, c] := by
  obtain ⟨a, us, rfl, h2⟩ := vlenS h
  obtain ⟨b, c, rfl⟩ := vlen2 h2
  exact ⟨a, b, c, rfl⟩
theorem vlen4 {vs : List Value} (h : vs.length = 4) : ∃ a b c d, vs = [a, b, c, d] := by
  obtain ⟨a, us, rfl, h2⟩ := vlenS h
  obtain ⟨b, c, d, rfl⟩ := vlen3 h2
  exact ⟨a, b, c, d, rfl⟩
end Mine
end
section
open PySem PySem.W PyProof.Rows PySem.Calls PySem.SeqAt
set_option Elab.async false
set_option linter.unusedVariables false
set_option maxRecDepth 100000
namespace Mine
abbrev pw : Program := PySem.Challenge.pw_il0031_01
section
variable {g : Glo} (H : Has g pw) {k : Kd} (T : TxOps g k)
include H
theorem c_fspath (k : Kd) (l : List UInt8) (σ : List MO) : Fn g 2 "fspath" [.tx k l] σ (.tx k l) σ := by
  refine fn_at ["path"] (H.defs 10 _ _ _ _ _ _ _ _ _ _ rfl (by decide)) (fun _ _ _ vs h => by obtain ⟨_, rfl⟩ := vlen1 h; rfl) ?_
  refine ex_step (ex1_assign (ev_typecall (evl_cons ev_name evl_nil) op_type)) ?_
  refine ex_if (evb_val rfl (ev_blt (evl_cons ev_name (evl_cons (ev_tuple (evl_cons ev_type (evl_cons ev_type evl_nil))) evl_nil)) op_issub) tr_bool) (fun _ => ?_) (fun h => nomatch h)
  exact ex_ret ev_name ret_end
theorem c_get_sep (k : Kd) (l : List UInt8) (σ : List MO) : Fn g 2 "_get_sep" [.tx k l] σ (.tx k [47]) σ := by
  refine fn_at ["path"] (H.defs 15 _ _ _ _ _ _ _ _ _ _ rfl (by decide)) (fun _ _ _ vs h => by obtain ⟨_, rfl⟩ := vlen1 h; rfl) ?_
  refine ex_if (evb_val rfl (ev_blt (evl_cons ev_name (evl_cons ev_type evl_nil)) op_isbytes) tr_bool) (fun h => ?_) (fun h => ?_)
  · cases k with
    | s => cases h
    | b => exact ex_ret ev_bytes ret_end
  · cases k with
    | s => exact ex_ret (ev_str (by decide +kernel)) ret_end
    | b => cases h
include T
theorem c_isabs (l : List UInt8) (σ : List MO) : Fn g 4 "isabs" [.tx k l] σ (.bool (l.head? == some 47)) σ := by
  refine fn_at ["s"] (H.defs 16 _ _ _ _ _ _ _ _ _ _ rfl (by decide)) (fun _ _ _ vs h => by obtain ⟨_, rfl⟩ := vlen1 h; rfl) ?_
  refine ex_step ex1_doc ?_
  refine ex_step (ex1_assign (ev_call 2 (evl_cons ev_name evl_nil) (c_fspath H k l σ))) ?_
  refine ex_step (ex1_assign (ev_call 2 (evl_cons ev_name evl_nil) (c_get_sep H k l σ))) ?_
  exact ex_ret (ev_meth ev_name (evl_cons ev_name evl_nil) (T.starts _ _ _ _)) ret_end
end
end Mine
end
section
open PySem PySem.W PyProof.Rows PySem.Calls PySem.SeqAt
set_option Elab.async false
set_option linter.unusedVariables false
set_option maxRecDepth 100000
namespace Mine

/-- what the defs of the module compute, in octets -/
noncomputable def isRun (p : List UInt8) : Bool := p == rep p.length [47]
noncomputable def hd' (p : List UInt8) : List UInt8 := if !p.isEmpty && !isRun p then rst 47 p else p
noncomputable def dn (p : List UInt8) : List UInt8 := hd' (p.take (aft 47 p))
noncomputable def bn (p : List UInt8) : List UInt8 := p.drop (aft 47 p)
noncomputable def jo (p b : List UInt8) : List UInt8 := if b.head? == some 47 || p.isEmpty then b else if p.getLast? == some 47 then p ++ b else p ++ ([47] ++ b)
noncomputable def srt (p : List UInt8) : List UInt8 × List UInt8 :=
  if p.take 1 != [47] then ([], p) else if (p.take 2).drop 1 != [47] || (p.take 3).drop 2 == [47] then ([47], p.drop 1) else (p.take 2, p.drop 2)
noncomputable def sx (p : List UInt8) : List UInt8 × List UInt8 :=
  if aft 47 p < aft 46 p && ((p.take (aft 46 p - 1)).drop (aft 47 p)).any (· != 46) then (p.take (aft 46 p - 1), p.drop (aft 46 p - 1)) else (p, [])

theorem rep_one (n : Nat) (c : UInt8) : rep n [c] = List.replicate n c := by
  unfold rep
  induction n with
  | zero => rfl
  | succ n ih => rw [List.replicate_succ, List.flatten_cons, ih, List.replicate_succ]; rfl
theorem aft_le (c : UInt8) (l : List UInt8) : aft c l ≤ l.length := by unfold aft; omega
theorem jo_len (p b : List UInt8) : (jo p b).length ≤ p.length + b.length + 1 := by
  unfold jo
  split
  · omega
  · split <;> simp <;> omega

section
variable {g : Glo} (H : Has g pw) {k : Kd} (T : TxOps g k) {σ : List MO}
include H T
theorem c_basename (p : List UInt8) (hz : p.length ≤ 1000000) : Fn g 4 "basename" [.tx k p] σ (.tx k (bn p)) σ := by
  refine fn_at ["p"] (H.defs 22 _ _ _ _ _ _ _ _ _ _ rfl (by decide)) (fun _ _ _ vs h => by obtain ⟨_, rfl⟩ := vlen1 h; rfl) ?_
  refine ex_step ex1_doc ?_
  refine ex_step (ex1_assign (ev_call 2 (evl_cons ev_name evl_nil) (c_fspath H k p σ))) ?_
  refine ex_step (ex1_assign (ev_call 2 (evl_cons ev_name evl_nil) (c_get_sep H k p σ))) ?_
  refine ex_step (ex1_assign (ev_bin (ev_meth ev_name (evl_cons ev_name evl_nil) (T.rfind _ _ p 47)) ev_int op_add_int)) ?_
  have e : ((aft 47 p : Int) - 1 + 1) = (aft 47 p : Nat) := by omega
  rw [e]
  refine ex_ret (ev_slc T.slc ev_name (evp_some ev_name) evp_none (by omega)) ?_
  rw [psl_from]
  exact ret_end
/-- the head of a path, without the slashes at its end -/
theorem c_dirname (p : List UInt8) (hz : p.length ≤ 1000000) : Fn g 4 "dirname" [.tx k p] σ (.tx k (dn p)) σ := by
  have hlen : (p.take (aft 47 p)).length ≤ p.length := by rw [List.length_take]; omega
  refine fn_at ["p"] (H.defs 23 _ _ _ _ _ _ _ _ _ _ rfl (by decide)) (fun _ _ _ vs h => by obtain ⟨_, rfl⟩ := vlen1 h; rfl) ?_
  refine ex_step ex1_doc ?_
  refine ex_step (ex1_assign (ev_call 2 (evl_cons ev_name evl_nil) (c_fspath H k p σ))) ?_
  refine ex_step (ex1_assign (ev_call 2 (evl_cons ev_name evl_nil) (c_get_sep H k p σ))) ?_
  refine ex_step (ex1_assign (ev_bin (ev_meth ev_name (evl_cons ev_name evl_nil) (T.rfind _ _ p 47)) ev_int op_add_int)) ?_
  have e : ((aft 47 p : Int) - 1 + 1) = (aft 47 p : Nat) := by omega
  rw [e]
  refine ex_step (ex1_assign (ev_slc T.slc ev_name evp_none (evp_some ev_name) (by omega))) ?_
  rw [psl_upto]
  refine ex_if (evb_and (evb_val rfl ev_name (tr_tx (by omega))) fun _ => evb_cmp ev_name (ev_bin ev_name (ev_blt (evl_cons ev_name evl_nil) (op_len_tx (by omega))) (T.mul _ _ [47] _ (by simp) (by simp) (by omega))) op_ne_tx) (fun h => ?_) (fun h => ?_)
  · refine ex_step (ex1_assign (ev_meth ev_name (evl_cons ev_name evl_nil) (T.rstrip _ _ _ 47 (by omega)))) ?_
    refine ex_ret ev_name ?_
    have : dn p = rst 47 (p.take (aft 47 p)) := by
      unfold dn hd' isRun
      rw [if_pos (by simpa [bne] using h)]
    rw [this]
    exact ret_end
  · refine ex_ret ev_name ?_
    have : dn p = p.take (aft 47 p) := by
      unfold dn hd' isRun
      rw [if_neg (by simpa [bne] using h)]
    rw [this]
    exact ret_end
theorem c_split (p : List UInt8) (hz : p.length ≤ 1000000) : Fn g 4 "split" [.tx k p] σ (.tup [.tx k (dn p), .tx k (bn p)]) σ := by
  have hlen : (p.take (aft 47 p)).length ≤ p.length := by rw [List.length_take]; omega
  refine fn_at ["p"] (H.defs 18 _ _ _ _ _ _ _ _ _ _ rfl (by decide)) (fun _ _ _ vs h => by obtain ⟨_, rfl⟩ := vlen1 h; rfl) ?_
  refine ex_step ex1_doc ?_
  refine ex_step (ex1_assign (ev_call 2 (evl_cons ev_name evl_nil) (c_fspath H k p σ))) ?_
  refine ex_step (ex1_assign (ev_call 2 (evl_cons ev_name evl_nil) (c_get_sep H k p σ))) ?_
  refine ex_step (ex1_assign (ev_bin (ev_meth ev_name (evl_cons ev_name evl_nil) (T.rfind _ _ p 47)) ev_int op_add_int)) ?_
  have e : ((aft 47 p : Int) - 1 + 1) = (aft 47 p : Nat) := by omega
  rw [e]
  refine ex_step (ex1_swap (ev_tuple (evl_cons (ev_slc T.slc ev_name evp_none (evp_some ev_name) (by omega)) (evl_cons (ev_slc T.slc ev_name (evp_some ev_name) evp_none (by omega)) evl_nil)))) ?_
  rw [psl_upto, psl_from]
  refine ex_if (evb_and (evb_val rfl ev_name (tr_tx (by omega))) fun _ => evb_cmp ev_name (ev_bin ev_name (ev_blt (evl_cons ev_name evl_nil) (op_len_tx (by omega))) (T.mul _ _ [47] _ (by simp) (by simp) (by omega))) op_ne_tx) (fun h => ?_) (fun h => ?_)
  · refine ex_step (ex1_assign (ev_meth ev_name (evl_cons ev_name evl_nil) (T.rstrip _ _ _ 47 (by omega)))) ?_
    have : dn p = rst 47 (p.take (aft 47 p)) := by
      unfold dn hd' isRun
      rw [if_pos (by simpa [bne] using h)]
    rw [this]
    exact ex_ret (ev_tuple (evl_cons ev_name (evl_cons ev_name evl_nil))) ret_end
  · have : dn p = p.take (aft 47 p) := by
      unfold dn hd' isRun
      rw [if_neg (by simpa [bne] using h)]
    rw [this]
    exact ex_ret (ev_tuple (evl_cons ev_name (evl_cons ev_name evl_nil))) ret_end
end
end Mine
end
section
open PySem PySem.W PyProof.Rows PySem.Calls PySem.SeqAt
set_option Elab.async false
set_option linter.unusedVariables false
set_option maxRecDepth 100000
namespace Mine
theorem at_slice (l : List UInt8) (i : Nat) (c : UInt8) : ((l.take (i + 1)).drop i == [c]) = (l[i]? == some c) := by
  rw [List.drop_take]
  have : i + 1 - i = 1 := by omega
  rw [this, Bool.eq_iff_iff, beq_iff_eq, beq_iff_eq]
  by_cases h : i < l.length
  · have e : (l.drop i).take 1 = [l[i]] := by rw [List.drop_eq_getElem_cons h]; rfl
    rw [e, List.getElem?_eq_getElem h]; simp
  · rw [List.drop_of_length_le (by omega), List.getElem?_eq_none (by omega)]; simp
section
variable {g : Glo} (H : Has g pw) {k : Kd} (T : TxOps g k) {σ : List MO}
include H T
theorem c_splitroot (p : List UInt8) (hz : p.length ≤ 1000000) : Fn g 4 "splitroot" [.tx k p] σ (.tup [.tx k [], .tx k (srt p).1, .tx k (srt p).2]) σ := by
  refine fn_at ["p"] (H.defs 21 _ _ _ _ _ _ _ _ _ _ rfl (by decide)) (fun _ _ _ vs h => by obtain ⟨_, rfl⟩ := vlen1 h; rfl) ?_
  refine ex_step ex1_doc ?_
  refine ex_step (ex1_assign (ev_call 2 (evl_cons ev_name evl_nil) (c_fspath H k p σ))) ?_
  refine ex_ifj (σ' := σ) (ρ' := [("empty", .tx k []), ("sep", .tx k [47]), ("p", .tx k p)]) (evb_val rfl (ev_blt (evl_cons ev_name (evl_cons ev_type evl_nil)) op_isbytes) tr_bool) (fun h => ?_) (fun h => ?_) ?_
  · cases k with
    | s => cases h
    | b => exact ex_step (ex1_assign ev_bytes) (ex_step (ex1_assign ev_bytes) (ex_nil ⟨_, rfl, sub_of ⟨rfl, rfl, rfl, trivial⟩⟩))
  · cases k with
    | s => exact ex_step (ex1_assign (ev_str (l := [47]) (by decide +kernel))) (ex_step (ex1_assign (ev_str (l := []) (by decide +kernel))) (ex_nil ⟨_, rfl, sub_of ⟨rfl, rfl, rfl, trivial⟩⟩))
    | b => cases h
  have e1 : psl p none (some 1) = p.take 1 := psl_upto p 1
  have e2 : psl p (some 1) (some 2) = (p.take 2).drop 1 := psl_mid p 1 2
  have e3 : psl p (some 2) (some 3) = (p.take 3).drop 2 := psl_mid p 2 3
  have e4 : psl p (some 1) none = p.drop 1 := psl_from p 1
  have e5 : psl p none (some 2) = p.take 2 := psl_upto p 2
  have e6 : psl p (some 2) none = p.drop 2 := psl_from p 2
  refine ex_if (evb_cmp (ev_slc T.slc ev_name evp_none (evp_some ev_int) (by omega)) ev_name op_ne_tx) (fun h => ?_) (fun h => ?_)
  · rw [e1] at h
    refine ex_ret (ev_tuple (evl_cons ev_name (evl_cons ev_name (evl_cons ev_name evl_nil)))) ?_
    have : srt p = ([], p) := by unfold srt; rw [if_pos h]
    rw [this]; exact ret_end
  · rw [e1] at h
    refine ex_if (evb_or (evb_cmp (ev_slc T.slc ev_name (evp_some ev_int) (evp_some ev_int) (by omega)) ev_name op_ne_tx) fun _ => evb_cmp (ev_slc T.slc ev_name (evp_some ev_int) (evp_some ev_int) (by omega)) ev_name op_eq_tx) (fun h' => ?_) (fun h' => ?_)
    · rw [e2, e3] at h'
      refine ex_ret (ev_tuple (evl_cons ev_name (evl_cons ev_name (evl_cons (ev_slc T.slc ev_name (evp_some ev_int) evp_none (by omega)) evl_nil)))) ?_
      have : srt p = ([47], p.drop 1) := by unfold srt; rw [if_neg (by simp [h]), if_pos h']
      rw [this, e4]; exact ret_end
    · rw [e2, e3] at h'
      refine ex_ret (ev_tuple (evl_cons ev_name (evl_cons (ev_slc T.slc ev_name evp_none (evp_some ev_int) (by omega)) (evl_cons (ev_slc T.slc ev_name (evp_some ev_int) evp_none (by omega)) evl_nil)))) ?_
      have : srt p = (p.take 2, p.drop 2) := by unfold srt; rw [if_neg (by rw [h]; decide), if_neg (by rw [h']; decide)]
      rw [this, e5, e6]; exact ret_end

theorem c_splitext_ (p : List UInt8) (hz : p.length ≤ 1000000) : Fn g 4 "_splitext" [.tx k p, .tx k [47], .none, .tx k [46]] σ (.tup [.tx k (sx p).1, .tx k (sx p).2]) σ := by
  refine fn_at ["p", "sep", "altsep", "extsep"] (H.defs 12 _ _ _ _ _ _ _ _ _ _ rfl (by decide)) (fun _ _ _ vs h => by obtain ⟨_, _, _, _, rfl⟩ := vlen4 h; rfl) ?_
  have h47 := aft_le 47 p
  have h46 := aft_le 46 p
  refine ex_step ex1_doc ?_
  refine ex_step (ex1_assign (ev_meth ev_name (evl_cons ev_name evl_nil) (T.rfind _ _ p 47))) ?_
  refine ex_if (evb_val rfl ev_name tr_none) (fun h => nomatch h) (fun _ => ?_)
  refine ex_step (ex1_assign (ev_meth ev_name (evl_cons ev_name evl_nil) (T.rfind _ _ p 46))) ?_
  have eN : psl p none (some 0) = [] := (psl_upto p 0).trans List.take_zero
  refine ex_if (evb_cmp ev_name ev_name op_gt_int) (fun h => ?_) (fun h => ?_)
  · have hlt : aft 47 p < aft 46 p := by have := of_decide_eq_true h; omega
    refine ex_step (ex1_assign (ev_bin ev_name ev_int op_add_int)) ?_
    refine ex_while (fun i => [("filenameIndex", .int ((aft 47 p + i : Nat) : Int)), ("dotIndex", .int ((aft 46 p : Int) - 1)), ("p", .tx k p), ("extsep", .tx k [46])]) (fun _ => σ) (fun i => ∀ j, j < i → p[aft 47 p + j]? = some 46) (aft 46 p - 1 - aft 47 p) rfl
      (sub_of ⟨by show some (V.int ((aft 47 p : Int) - 1 + 1)) = _; congr 2; push_cast; omega, rfl, rfl, rfl, trivial⟩) (fun j hj => absurd hj (Nat.not_lt_zero _)) (fun i hi hok => ⟨?_, ?_⟩) (fun hok => ⟨?_, ?_⟩)
    · exact evb_eq (evb_cmp ev_name ev_name op_lt_int) (by apply decide_eq_true; omega)
    · have e1 : psl p (some ((aft 47 p + i : Nat) : Int)) (some (((aft 47 p + i : Nat) : Int) + 1)) = (p.take (aft 47 p + i + 1)).drop (aft 47 p + i) := psl_mid p (aft 47 p + i) (aft 47 p + i + 1)
      refine ex_if (evb_cmp (ev_slc T.slc ev_name (evp_some ev_name) (evp_some (ev_bin ev_name ev_int op_add_int)) (by omega)) ev_name op_ne_tx) (fun hc => ?_) (fun hc => ?_)
      · rw [e1, bne, at_slice] at hc
        have e2 : psl p none (some ((aft 46 p : Int) - 1)) = p.take (aft 46 p - 1) := by
          have : ((aft 46 p : Int) - 1) = ((aft 46 p - 1 : Nat) : Int) := by omega
          rw [this]; exact psl_upto p _
        have e3 : psl p (some ((aft 46 p : Int) - 1)) none = p.drop (aft 46 p - 1) := by
          have : ((aft 46 p : Int) - 1) = ((aft 46 p - 1 : Nat) : Int) := by omega
          rw [this]; exact psl_from p _
        refine ex_ret (ev_tuple (evl_cons (ev_slc T.slc ev_name evp_none (evp_some ev_name) (by omega)) (evl_cons (ev_slc T.slc ev_name (evp_some ev_name) evp_none (by omega)) evl_nil))) (.rt ?_)
        have : sx p = (p.take (aft 46 p - 1), p.drop (aft 46 p - 1)) := by
          unfold sx
          rw [if_pos]
          rw [decide_eq_true hlt, Bool.true_and, List.any_eq_true]
          have hi' : aft 47 p + i < p.length := by omega
          refine ⟨p[aft 47 p + i], ?_, ?_⟩
          · refine List.mem_iff_getElem?.mpr ⟨i, ?_⟩
            rw [List.getElem?_drop, List.getElem?_take, if_pos (by omega), List.getElem?_eq_getElem hi']
          · rw [List.getElem?_eq_getElem hi'] at hc
            simpa using hc
        rw [this, e2, e3]; exact ret_end
      · rw [e1, bne, at_slice] at hc
        refine ex_step (ex1_aug ev_int op_iadd_int) (ex_nil (.nx (fun j hj => ?_) (sub_of ⟨by show some (V.int (((aft 47 p + i : Nat) : Int) + 1)) = _; congr 2, rfl, rfl, rfl, trivial⟩)))
        rcases Nat.lt_succ_iff_lt_or_eq.mp hj with hj | rfl
        · exact hok j hj
        · simpa using hc
    · exact evb_eq (evb_cmp ev_name ev_name op_lt_int) (by apply decide_eq_false; omega)
    · refine ex_ret (ev_tuple (evl_cons ev_name (evl_cons (ev_slc T.slc ev_name evp_none (evp_some ev_int) (by omega)) evl_nil))) ?_
      have : sx p = (p, []) := by
        unfold sx
        rw [if_neg]
        rw [decide_eq_true hlt, Bool.true_and, List.any_eq_true]
        rintro ⟨c, hc, hne⟩
        obtain ⟨j, hj⟩ := List.mem_iff_getElem?.mp hc
        rw [List.getElem?_drop, List.getElem?_take] at hj
        split at hj
        · rw [hok j (by omega)] at hj
          cases hj; exact absurd hne (by decide)
        · cases hj
      rw [this, eN]; exact ret_end
  · refine ex_ret (ev_tuple (evl_cons ev_name (evl_cons (ev_slc T.slc ev_name evp_none (evp_some ev_int) (by omega)) evl_nil))) ?_
    have : sx p = (p, []) := by
      unfold sx
      have : ¬ aft 47 p < aft 46 p := by have := of_decide_eq_false h; omega
      rw [if_neg (by simp [this])]
    rw [this, eN]; exact ret_end
end
end Mine
end
section
open PySem PySem.W PyProof.Rows PySem.Calls PySem.SeqAt
set_option Elab.async false
set_option linter.unusedVariables false
set_option maxRecDepth 100000
namespace Mine
noncomputable def jos (a : List UInt8) (ps : List (List UInt8)) : List UInt8 := ps.foldl jo a
noncomputable def tot (ps : List (List UInt8)) : Nat := (ps.map fun p => p.length + 1).sum
theorem tot_cons (p : List UInt8) (ps : List (List UInt8)) : tot (p :: ps) = p.length + 1 + tot ps := by unfold tot; rw [List.map_cons, List.sum_cons]
theorem jos_len : ∀ (ps : List (List UInt8)) (a : List UInt8), (jos a ps).length ≤ a.length + tot ps
  | [], a => by simp [jos, tot]
  | p :: ps, a => by
    have h1 := jos_len ps (jo a p)
    have h2 := jo_len a p
    show (jos (jo a p) ps).length ≤ _
    rw [tot_cons]; omega
theorem tot_take : ∀ (ps : List (List UInt8)) (i : Nat), tot (ps.take i) ≤ tot ps
  | [], i => by simp [tot]
  | p :: ps, 0 => by simp [tot]
  | p :: ps, i + 1 => by
    have := tot_take ps i
    rw [List.take_succ_cons, tot_cons, tot_cons]; omega
theorem tot_get : ∀ (ps : List (List UInt8)) (i : Nat) (b : List UInt8), ps[i]? = some b → tot (ps.take i) + b.length + 1 ≤ tot ps
  | [], i, b, e => by simp at e
  | p :: ps, 0, b, e => by
    cases e
    rw [tot_cons]; simp [tot]
  | p :: ps, i + 1, b, e => by
    have := tot_get ps i b (by simpa using e)
    rw [List.take_succ_cons, tot_cons, tot_cons]; omega
theorem jos_succ {a b : List UInt8} {ps : List (List UInt8)} {i : Nat} (e : ps[i]? = some b) : jos a (ps.take (i + 1)) = jo (jos a (ps.take i)) b := by
  have hi := (List.getElem?_eq_some_iff.mp e).1
  have : ps.take (i + 1) = ps.take i ++ [b] := by
    rw [List.take_add_one, e]; rfl
  rw [this]
  unfold jos
  rw [List.foldl_append]; rfl
/-- one piece of a path, taken up -/
noncomputable def npS (rooted : Bool) (acc : List (List UInt8)) (c : List UInt8) : List (List UInt8) :=
  if c.isEmpty || c == [46] then acc
  else if c != [46, 46] || (!rooted && acc.isEmpty) || (!acc.isEmpty && acc.getLast? == some [46, 46]) then acc ++ [c]
  else acc.dropLast
noncomputable def npC (p : List UInt8) : List (List UInt8) := (spl 47 (srt p).2).foldl (npS (!(srt p).1.isEmpty)) []
noncomputable def np (p : List UInt8) : List UInt8 :=
  if p.isEmpty then [46] else
  let r := (srt p).1 ++ jn [47] (npC p)
  if r.isEmpty then [46] else r
theorem srt_len (p : List UInt8) : (srt p).1.length ≤ p.length ∧ (srt p).2.length ≤ p.length ∧ (srt p).1.length ≤ 2 := by
  unfold srt
  cases p with
  | nil => simp
  | cons a r =>
    split
    · simp
    · split
      · simp
      · simp; omega
theorem npS_sum (r : Bool) (acc : List (List UInt8)) (c : List UInt8) : tot (npS r acc c) ≤ tot acc + c.length + 1 := by
  unfold npS
  split
  · omega
  · split
    · unfold tot; simp [List.sum_append]; omega
    · have : tot acc.dropLast ≤ tot acc := by rw [List.dropLast_eq_take]; exact tot_take acc _
      omega
theorem npF_sum (r : Bool) : ∀ (cs acc : List (List UInt8)), tot (cs.foldl (npS r) acc) ≤ tot acc + tot cs
  | [], acc => by simp [tot]
  | c :: cs, acc => by
    have h1 := npF_sum r cs (npS r acc c)
    have h2 := npS_sum r acc c
    rw [List.foldl_cons, tot_cons]; omega
theorem spl_tot (c : UInt8) : ∀ l, tot (spl c l) = l.length + 1
  | [] => by simp [spl, tot]
  | x :: r => by
    have ih := spl_tot c r
    unfold spl
    split
    · rw [tot_cons, ih]; simp; omega
    · obtain ⟨p, q, e⟩ := List.exists_cons_of_ne_nil (spl_ne c r)
      rw [e] at ih ⊢
      rw [tot_cons] at ih
      show tot ((x :: p) :: q) = _
      rw [tot_cons]; simp; omega
theorem tot_length (ps : List (List UInt8)) : ps.length ≤ tot ps := by
  induction ps with
  | nil => simp [tot]
  | cons p r ih => rw [tot_cons]; simp; omega

theorem jn_len : ∀ (ps : List (List UInt8)), (jn [47] ps).length ≤ tot ps
  | [] => by simp [jn]
  | [p] => by rw [tot_cons]; simp [jn, tot]
  | p :: q :: r => by
    have := jn_len (q :: r)
    rw [tot_cons]
    show (p ++ [47] ++ jn [47] (q :: r)).length ≤ _
    simp; omega
theorem bind_ap (name : Str) (body : List Stmt) (scope : Scope) (pm cd doc v : Value) (vs : List Value) (p1 p2 : Pos) : bindArgs (docDef name { posonlyargs := [], args := [⟨"a", none, p1⟩], vararg := some ⟨"p", none, p2⟩, kwonlyargs := [], kw_defaults := [], kwarg := none, defaults := [] } body scope pm cd doc) ⟨v :: vs, []⟩ = (newTuple vs >>= fun t => pure [(("a" : Str), v), (("p" : Str), t)]) := by
  unfold bindArgs
  dsimp only [docDef]
  simp only [List.map, List.length, List.zip, List.zipWith, List.nil_append, List.forIn_nil, pure_bind, List.filter]
  have e : seqItems? Value.none = pure none := rfl
  simp only [e, pure_bind, Option.isNone_some, Bool.and_false, Bool.false_eq_true, if_false]
  rfl

section
variable {g : Glo} (H : Has g pw) {k : Kd} (T : TxOps g k) {σ : List MO}
include H T
theorem c_splitext (p : List UInt8) (hz : p.length ≤ 1000000) : Fn g 6 "splitext" [.tx k p] σ (.tup [.tx k (sx p).1, .tx k (sx p).2]) σ := by
  refine fn_at ["p"] (H.defs 19 _ _ _ _ _ _ _ _ _ _ rfl (by decide)) (fun _ _ _ vs h => by obtain ⟨_, rfl⟩ := vlen1 h; rfl) ?_
  refine ex_step (ex1_assign (ev_call 2 (evl_cons ev_name evl_nil) (c_fspath H k p σ))) ?_
  refine ex_ifj (σ' := σ) (ρ' := [("extsep", .tx k [46]), ("sep", .tx k [47]), ("p", .tx k p)]) (evb_val rfl (ev_blt (evl_cons ev_name (evl_cons ev_type evl_nil)) op_isbytes) tr_bool) (fun h => ?_) (fun h => ?_) ?_
  · cases k with
    | s => cases h
    | b => exact ex_step (ex1_assign ev_bytes) (ex_step (ex1_assign ev_bytes) (ex_nil ⟨_, rfl, sub_of ⟨rfl, rfl, rfl, trivial⟩⟩))
  · cases k with
    | s => exact ex_step (ex1_assign (ev_str (l := [47]) (by decide +kernel))) (ex_step (ex1_assign (ev_str (l := [46]) (by decide +kernel))) (ex_nil ⟨_, rfl, sub_of ⟨rfl, rfl, rfl, trivial⟩⟩))
    | b => cases h
  exact ex_ret (ev_call 4 (evl_cons ev_name (evl_cons ev_name (evl_cons ev_none (evl_cons ev_name evl_nil)))) (c_splitext_ H T p hz)) ret_end

theorem c_join (a : List UInt8) (ps : List (List UInt8)) (hz : a.length + tot ps ≤ 1000000) : Fn g 4 "join" (.tx k a :: ps.map (.tx k)) σ (.tx k (jos a ps)) σ := by
  have hpl := tot_length ps
  refine fn_gen (d := ⟨_, _, _, _, _⟩) (H.defs 17 _ _ _ _ _ _ _ _ _ _ rfl (by decide)) (bind_var "a" "p" (fun _ _ _ v vs => bind_ap _ _ _ _ _ _ v vs _ _) (by decide +kernel) (by decide +kernel) (by decide +kernel) (by simp; omega)) ?_
  refine ex_step ex1_doc ?_
  refine ex_step (ex1_assign (ev_call 2 (evl_cons ev_name evl_nil) (c_fspath H k a σ))) ?_
  refine ex_step (ex1_assign (ev_call 2 (evl_cons ev_name evl_nil) (c_get_sep H k a σ))) ?_
  refine ex_step (ex1_assign ev_name) ?_
  refine ex_try (ex_for (fun i => [("path", .tx k (jos a (ps.take i))), ("sep", .tx k [47])]) (fun _ => σ) (fun _ => True) (src_tup ev_name rfl) (sub_of ⟨rfl, rfl, trivial⟩) trivial (fun i y hy _ => ?_) (fun _ => ?_))
  · rw [List.getElem?_map] at hy
    obtain ⟨b, hb, rfl⟩ := Option.map_eq_some_iff.mp hy
    have h1 := jos_len (ps.take i) a
    have h2 := tot_get ps i b hb
    refine ⟨_, asg_name, ?_⟩
    refine ex_step (ex1_assign (ev_call 2 (evl_cons ev_name evl_nil) (c_fspath H k b σ))) ?_
    have fin : ∀ r : Loc, AllIn [("path", .tx k (jo (jos a (ps.take i)) b)), ("sep", .tx k [47])] r → ∀ {B Φ}, Lp [("path", .tx k (jos a (ps.take (i + 1)))), ("sep", .tx k [47])] σ True B Φ (.nx r σ) := by
      intro r hr B Φ
      refine .nx trivial (sub_of ?_)
      rw [jos_succ hb]; exact hr
    refine ex_if (evb_or (evb_val rfl (ev_meth ev_name (evl_cons ev_name evl_nil) (T.starts _ _ b 47)) tr_bool) fun _ => evb_not (evb_val rfl ev_name (tr_tx (by omega)))) (fun h => ?_) (fun h => ?_)
    · refine ex_step (ex1_assign ev_name) (ex_nil (fin _ ⟨?_, rfl, trivial⟩))
      have : jo (jos a (ps.take i)) b = b := by unfold jo; rw [if_pos (by simpa using h)]
      rw [this]; rfl
    · refine ex_if (evb_val rfl (ev_meth ev_name (evl_cons ev_name evl_nil) (T.ends _ _ _ 47)) tr_bool) (fun h' => ?_) (fun h' => ?_)
      · refine ex_step (ex1_aug ev_name (T.iadd _ _ (jos a (ps.take i)) b (by omega))) (ex_nil (fin _ ⟨?_, rfl, trivial⟩))
        have : jo (jos a (ps.take i)) b = jos a (ps.take i) ++ b := by unfold jo; rw [if_neg (by simpa using h), if_pos h']
        rw [this]; rfl
      · refine ex_step (ex1_aug (ev_bin ev_name ev_name (T.add _ _ [47] b (by simp; omega))) (T.iadd _ _ (jos a (ps.take i)) ([47] ++ b) (by simp; omega))) (ex_nil (fin _ ⟨?_, rfl, trivial⟩))
        have : jo (jos a (ps.take i)) b = jos a (ps.take i) ++ ([47] ++ b) := by unfold jo; rw [if_neg (by simpa using h), if_neg (by rw [h']; decide)]
        rw [this]; rfl
  · refine ex_nil ?_
    show Ex g _ _ _ _ _ _
    rw [List.take_of_length_le (by simp)]
    exact ex_ret ev_name ret_end

theorem c_normpath (p : List UInt8) (hz : p.length ≤ 1000000) : Fn g 6 "normpath" [.tx k p] σ (.tx k (np p)) σ := by
  have hs := srt_len p
  have hsp := spl_length 47 (srt p).2
  have htt := spl_tot 47 (srt p).2
  refine fn_drop (j := if p.isEmpty then [] else [.list ((npC p).map (.tx k))]) ?_ (fun m => .tx _ _)
  refine fn_at ["path"] (H.defs 24 _ _ _ _ _ _ _ _ _ _ rfl (by decide)) (fun _ _ _ vs h => by obtain ⟨_, rfl⟩ := vlen1 h; rfl) ?_
  refine ex_step ex1_doc ?_
  refine ex_step (ex1_assign (ev_call 2 (evl_cons ev_name evl_nil) (c_fspath H k p σ))) ?_
  refine ex_ifj (σ' := σ) (ρ' := [("dotdot", .tx k [46, 46]), ("dot", .tx k [46]), ("sep", .tx k [47]), ("path", .tx k p)]) (evb_val rfl (ev_blt (evl_cons ev_name (evl_cons ev_type evl_nil)) op_isbytes) tr_bool) (fun h => ?_) (fun h => ?_) ?_
  · cases k with
    | s => cases h
    | b => exact ex_step (ex1_assign ev_bytes) (ex_step (ex1_assign ev_bytes) (ex_step (ex1_assign ev_bytes) (ex_nil ⟨_, rfl, sub_of ⟨rfl, rfl, rfl, rfl, trivial⟩⟩)))
  · cases k with
    | s => exact ex_step (ex1_assign (ev_str (l := [47]) (by decide +kernel))) (ex_step (ex1_assign (ev_str (l := [46]) (by decide +kernel))) (ex_step (ex1_assign (ev_str (l := [46, 46]) (by decide +kernel))) (ex_nil ⟨_, rfl, sub_of ⟨rfl, rfl, rfl, rfl, trivial⟩⟩)))
    | b => cases h
  refine ex_if (evb_not (evb_val rfl ev_name (tr_tx (by omega)))) (fun h => ?_) (fun h => ?_)
  · have hp : p.isEmpty = true := by simpa using h
    refine ex_ret ev_name ?_
    rw [if_pos hp, List.append_nil]
    have : np p = [46] := by unfold np; rw [if_pos hp]
    rw [this]; exact ret_end
  · have hp : p.isEmpty = false := by simpa using h
    rw [hp]
    refine ex_step (ex1_untup (ev_call 4 (evl_cons ev_name evl_nil) (c_splitroot H T p hz)) (asg_tup (asgl_cons asg_name (asgl_cons asg_name (asgl_cons asg_name asgl_nil))))) ?_
    refine ex_step (ex1_assign (ev_meth ev_name (evl_cons ev_name evl_nil) (T.split _ _ (srt p).2 47 (by omega)))) ?_
    refine ex_step (ex1_assign (ev_newL evl_nil)) ?_
    let acc : Nat → List (List UInt8) := fun i => ((spl 47 (srt p).2).take i).foldl (npS (!(srt p).1.isEmpty)) []
    have hacc : ∀ i, tot (acc i) ≤ (srt p).2.length + 1 := fun i => by
      have h1 := npF_sum (!(srt p).1.isEmpty) ((spl 47 (srt p).2).take i) []
      have h2 := tot_take (spl 47 (srt p).2) i
      have : tot ([] : List (List UInt8)) = 0 := rfl
      show tot (((spl 47 (srt p).2).take i).foldl (npS (!(srt p).1.isEmpty)) []) ≤ _
      omega
    refine ex_for (fun i => [("new_comps", .cell σ.length), ("initial_slashes", .tx k (srt p).1), ("dotdot", .tx k [46, 46]), ("dot", .tx k [46]), ("sep", .tx k [47])]) (fun i => σ ++ [.list ((acc i).map (.tx k))]) (fun _ => True) (src_list ev_name (.inl rfl)) (sub_of ⟨rfl, rfl, rfl, rfl, rfl, trivial⟩) trivial (fun i y hy _ => ?_) (fun _ => ?_)
    · rw [List.getElem?_map] at hy
      obtain ⟨c, hc, rfl⟩ := Option.map_eq_some_iff.mp hy
      have hstep : acc (i + 1) = npS (!(srt p).1.isEmpty) (acc i) c := by
        have : (spl 47 (srt p).2).take (i + 1) = (spl 47 (srt p).2).take i ++ [c] := by rw [List.take_add_one, hc]; rfl
        show ((spl 47 (srt p).2).take (i + 1)).foldl _ [] = _
        rw [this, List.foldl_append]; rfl
      have hcl : c.length ≤ (srt p).2.length + 1 := by
        have := tot_get _ _ _ hc
        omega
      have hal := tot_length (acc i)
      have hai := hacc i
      refine ⟨_, asg_name, ?_⟩
      have fin : ∀ (l : List (List UInt8)) (r : Loc), npS (!(srt p).1.isEmpty) (acc i) c = l → Sub [("new_comps", .cell σ.length), ("initial_slashes", .tx k (srt p).1), ("dotdot", .tx k [46, 46]), ("dot", .tx k [46]), ("sep", .tx k [47])] r →
          ∀ {B Φ}, Lp [("new_comps", .cell σ.length), ("initial_slashes", .tx k (srt p).1), ("dotdot", .tx k [46, 46]), ("dot", .tx k [46]), ("sep", .tx k [47])] (σ ++ [.list ((acc (i + 1)).map (.tx k))]) True B Φ (.nx r (σ ++ [.list (l.map (.tx k))])) := by
        intro l r e hr B Φ
        rw [hstep, e]
        exact .nx trivial hr
      have hcell : ∀ l : List V, (σ ++ [MO.list l])[σ.length]? = some (MO.list l) := fun l => by simp
      have hset : ∀ l l' : List V, (σ ++ [MO.list l]).set σ.length (MO.list l') = σ ++ [MO.list l'] := fun l l' => by simp
      have hlv : LV (σ ++ [MO.list ((acc i).map (.tx k))]) (.cell σ.length) ((acc i).map (.tx k)) := .inr ⟨_, rfl, hcell _⟩
      have htr : Tr g 5 (σ ++ [MO.list ((acc i).map (.tx k))]) (.cell σ.length) (!((acc i).map (V.tx k)).isEmpty) := tr_list hlv (by simp; omega)
      have hemp : ((acc i).map (V.tx k)).isEmpty = (acc i).isEmpty := by simp
      refine ex_if (evb_or (evb_not (evb_val rfl ev_name (tr_tx (by omega)))) fun _ => evb_cmp ev_name ev_name op_eq_tx) (fun h => ?_) (fun h => ?_)
      · have e : acc (i + 1) = acc i := by rw [hstep]; unfold npS; rw [if_pos (by simpa using h)]
        refine ex_cont ?_
        rw [e]
        exact .ct trivial (sub_of ⟨rfl, rfl, rfl, rfl, rfl, trivial⟩)
      · have h0 : ¬ (c.isEmpty || c == [46]) = true := by simpa using h
        refine ex_if (evb_or3 (evb_cmp ev_name ev_name op_ne_tx) (fun _ => evb_and (evb_not (evb_val rfl ev_name (tr_tx (by omega)))) fun _ => evb_not (evb_val rfl ev_name htr)) (fun _ _ => evb_and (c := (acc i).getLast? == some [46, 46]) (evb_val rfl ev_name htr) fun hne => ?_)) (fun h' => ?_) (fun h' => ?_)
        · rw [hemp] at hne
          obtain ⟨l, hl⟩ : ∃ l, (acc i).getLast? = some l := by
            cases hq : (acc i).getLast? with
            | none => rw [List.getLast?_eq_none_iff] at hq; rw [hq] at hne; cases hne
            | some l => exact ⟨l, rfl⟩
          rw [hl]
          exact evb_eq (evb_cmp (ev_sub ev_name ev_neg1 (Seq.lst hlv) (op_item_last hlv (y := .tx k l) (by rw [List.getLast?_map, hl]; rfl) (by simp; omega))) ev_name op_eq_tx) (by simp)
        · have e : npS (!(srt p).1.isEmpty) (acc i) c = acc i ++ [c] := by
            unfold npS
            rw [if_neg h0, if_pos (by rw [hemp] at h'; simpa using h')]
          refine ex_step (ex1_expr (ev_meth ev_name (evl_cons ev_name evl_nil) (mop_append (hcell _) (by simp; omega)))) ?_
          rw [hset]
          have e2 : List.map (V.tx k) (acc i) ++ [V.tx k c] = List.map (V.tx k) (acc i ++ [c]) := by rw [List.map_append]; rfl
          rw [e2]
          exact ex_nil (fin _ _ e (sub_of ⟨rfl, rfl, rfl, rfl, rfl, trivial⟩))
        · have e : npS (!(srt p).1.isEmpty) (acc i) c = (acc i).dropLast := by
            unfold npS
            rw [if_neg h0, if_neg (by rw [hemp] at h'; rw [← Bool.not_eq_true] at h'; simpa using h')]
          refine ex_if (evb_val rfl ev_name htr) (fun hne => ?_) (fun hne => ?_)
          · rw [hemp] at hne
            have hn0 : acc i ≠ [] := by intro q; rw [q] at hne; cases hne
            have hd : acc i = (acc i).dropLast ++ [(acc i).getLast hn0] := (List.dropLast_concat_getLast hn0).symm
            have hc2 : (σ ++ [MO.list ((acc i).map (V.tx k))])[σ.length]? = some (MO.list ((acc i).dropLast.map (V.tx k) ++ [.tx k ((acc i).getLast hn0)])) := by
              rw [hcell]
              congr 2
              conv => lhs; rw [hd]
              rw [List.map_append]; rfl
            refine ex_step (ex1_expr (ev_meth ev_name evl_nil (mop_pop hc2 (by simp; omega)))) ?_
            rw [hset]
            exact ex_nil (fin _ _ e (sub_of ⟨rfl, rfl, rfl, rfl, rfl, trivial⟩))
          · rw [hemp] at hne
            have hn0 : acc i = [] := by
              cases hq : acc i with
              | nil => rfl
              | cons a r => rw [hq] at hne; cases hne
            have e' : npS (!(srt p).1.isEmpty) (acc i) c = acc i := by rw [e, hn0]; rfl
            exact ex_nil (fin _ _ e' (sub_of ⟨rfl, rfl, rfl, rfl, rfl, trivial⟩))
    · have hN : acc (((spl 47 (srt p).2).map (V.tx k)).length) = npC p := by
        show ((spl 47 (srt p).2).take _).foldl _ [] = _
        rw [List.take_of_length_le (by simp)]; rfl
      rw [hN]
      have hai : tot (npC p) ≤ (srt p).2.length + 1 := by rw [← hN]; exact hacc _
      have hjl := jn_len (npC p)
      have hlv : LV (σ ++ [MO.list ((npC p).map (V.tx k))]) (.cell σ.length) ((npC p).map (.tx k)) := .inr ⟨_, rfl, by simp⟩
      refine ex_step (ex1_assign ev_name) ?_
      refine ex_step (ex1_assign (ev_bin ev_name (ev_meth ev_name (evl_cons ev_name evl_nil) (T.join _ _ [47] (npC p) _ hlv (by show tot (npC p) ≤ _; omega))) (T.add _ _ (srt p).1 (jn [47] (npC p)) (by omega)))) ?_
      refine ex_ret (ev_or ev_name (tr_tx (a := (srt p).1 ++ jn [47] (npC p)) (by simp; omega)) (fun _ => ev_name)) ?_
      have : (if (!((srt p).1 ++ jn [47] (npC p)).isEmpty) = true then V.tx k ((srt p).1 ++ jn [47] (npC p)) else .tx k [46]) = .tx k (np p) := by
        have hnp : np p = if ((srt p).1 ++ jn [47] (npC p)).isEmpty then [46] else (srt p).1 ++ jn [47] (npC p) := by
          unfold np
          rw [if_neg (by rw [hp]; decide)]
        rw [hnp]
        cases ((srt p).1 ++ jn [47] (npC p)).isEmpty <;> rfl
      rw [this]; exact ret_end
end
end Mine
end
section
open PySem PySem.W PyProof.Rows PySem.Calls PySem.SeqAt
set_option Elab.async false
set_option linter.unusedVariables false
set_option maxRecDepth 100000
namespace Mine
abbrev Oct := List UInt8
noncomputable def emb (as : List Oct) : List (List Nat) := as.map fun a => a.map UInt8.toNat
theorem ltL_eq : ∀ (as bs : List Oct), ltL as bs = decide (emb as < emb bs)
  | [], [] => by decide
  | [], b :: bs => by
    have : emb [] < emb (b :: bs) := List.nil_lt_cons _ _
    rw [decide_eq_true this]; rfl
  | a :: as, [] => by
    have : ¬ emb (a :: as) < emb [] := List.not_lt_nil _
    rw [decide_eq_false this]; rfl
  | a :: as, b :: bs => by
    have ih := ltL_eq as bs
    have e : (emb (a :: as) < emb (b :: bs)) ↔ (a.map UInt8.toNat < b.map UInt8.toNat ∨ a.map UInt8.toNat = b.map UInt8.toNat ∧ emb as < emb bs) := List.cons_lt_cons_iff
    unfold ltL
    by_cases h : a = b
    · subst h
      rw [if_pos (beq_self_eq_true a), ih, Bool.eq_iff_iff, decide_eq_true_iff, decide_eq_true_iff, e]
      constructor
      · exact fun x => .inr ⟨rfl, x⟩
      · rintro (x | ⟨_, x⟩)
        · exact absurd x (List.lt_irrefl _)
        · exact x
    · have hn : ¬ a.map UInt8.toNat = b.map UInt8.toNat := fun x => h (map_toNat_inj x)
      rw [if_neg (by simpa using h)]
      unfold ltS
      rw [Bool.eq_iff_iff, decide_eq_true_iff, decide_eq_true_iff, e]
      exact ⟨.inl, fun x => x.elim id fun x => absurd x.1 hn⟩
theorem ltL_false (as bs : List Oct) : ltL as bs = false ↔ emb bs ≤ emb as := by
  rw [ltL_eq, decide_eq_false_iff_not]; exact List.not_lt
theorem le_maxF : ∀ (xss : List (List Oct)) (x : List Oct), emb x ≤ emb (xss.foldl maxS x)
  | [], x => Std.le_refl _
  | y :: xss, x => by
    rw [List.foldl_cons]
    refine Std.le_trans ?_ (le_maxF xss (maxS x y))
    unfold maxS
    split
    · rename_i h
      rw [ltL_eq, decide_eq_true_iff] at h
      exact Std.le_of_lt h
    · exact Std.le_refl _
theorem minF_le : ∀ (xss : List (List Oct)) (x : List Oct), emb (xss.foldl minS x) ≤ emb x
  | [], x => Std.le_refl _
  | y :: xss, x => by
    rw [List.foldl_cons]
    refine Std.le_trans (minF_le xss (minS x y)) ?_
    unfold minS
    split
    · rename_i h
      rw [ltL_eq, decide_eq_true_iff] at h
      exact Std.le_of_lt h
    · exact Std.le_refl _
theorem min_le_max (xss : List (List Oct)) (x : List Oct) : ltL (xss.foldl maxS x) (xss.foldl minS x) = false :=
  (ltL_false _ _).mpr (Std.le_trans (minF_le xss x) (le_maxF xss x))
/-- what two lists begin with -/
noncomputable def cmn : List Oct → List Oct → List Oct
  | a :: as, b :: bs => if a = b then a :: cmn as bs else []
  | _, _ => []
theorem le_idx : ∀ (s1 s2 : List Oct), ltL s2 s1 = false → ∀ i, i < s1.length → (∀ j, j < i → s1[j]? = s2[j]?) → i < s2.length
  | [], _, _, i, hi, _ => absurd hi (Nat.not_lt_zero _)
  | a :: as, [], h, i, _, _ => nomatch h
  | a :: as, b :: bs, h, 0, _, _ => Nat.succ_pos _
  | a :: as, b :: bs, h, i + 1, hi, hj => by
    have h0 := hj 0 (Nat.succ_pos _)
    have e : a = b := by simpa using h0
    subst e
    unfold ltL at h
    rw [if_pos (beq_self_eq_true a)] at h
    exact Nat.succ_lt_succ (le_idx as bs h i (Nat.lt_of_succ_lt_succ hi) fun j hj' => by simpa using hj (j + 1) (Nat.succ_lt_succ hj'))
theorem cmn_take : ∀ (s1 s2 : List Oct) (i : Nat) (a b : Oct), (∀ j, j < i → s1[j]? = s2[j]?) → s1[i]? = some a → s2[i]? = some b → a ≠ b → cmn s1 s2 = s1.take i
  | [], _, i, a, b, _, h1, _, _ => by simp at h1
  | x :: as, [], i, a, b, _, _, h2, _ => by simp at h2
  | x :: as, y :: bs, 0, a, b, _, h1, h2, hne => by
    cases h1; cases h2
    unfold cmn; rw [if_neg hne]; rfl
  | x :: as, y :: bs, i + 1, a, b, hj, h1, h2, hne => by
    have e : x = y := by simpa using hj 0 (Nat.succ_pos _)
    unfold cmn
    rw [if_pos e, cmn_take as bs i a b (fun j hj' => by simpa using hj (j + 1) (Nat.succ_lt_succ hj')) (by simpa using h1) (by simpa using h2) hne]
    rfl
theorem cmn_all : ∀ (s1 s2 : List Oct), (∀ j, j < s1.length → s1[j]? = s2[j]?) → cmn s1 s2 = s1
  | [], s2, _ => by cases s2 <;> rfl
  | x :: as, [], hj => by have := hj 0 (Nat.succ_pos _); simp at this
  | x :: as, y :: bs, hj => by
    have e : x = y := by simpa using hj 0 (Nat.succ_pos _)
    unfold cmn
    rw [if_pos e, cmn_all as bs fun j hj' => by simpa using hj (j + 1) (Nat.succ_lt_succ hj')]
/-- a path's pieces that count -/
noncomputable def rowOf (p : Oct) : List Oct := (spl 47 p).filter fun c => !c.isEmpty && c != [46]
noncomputable def cpRows (p : Oct) (ps : List Oct) : List Oct := cmn ((ps.map rowOf).foldl minS (rowOf p)) ((ps.map rowOf).foldl maxS (rowOf p))
noncomputable def rooted (p : Oct) : Bool := p.head? == some 47
noncomputable def cpOf (b : Bool) (p : Oct) (ps : List Oct) : Oct := (if b then [47] else []) ++ jn [47] (cpRows p ps)
end Mine
end
section
open PySem PySem.W PyProof.Rows PySem.Calls PySem.SeqAt
set_option Elab.async false
set_option linter.unusedVariables false
set_option maxRecDepth 100000
namespace Mine
theorem tot_filter (f : Oct → Bool) : ∀ ps : List Oct, tot (ps.filter f) ≤ tot ps
  | [] => Nat.le_refl _
  | p :: ps => by
    have := tot_filter f ps
    rw [List.filter_cons, tot_cons]
    split
    · rw [tot_cons]; omega
    · omega
theorem rowOf_tot (p : Oct) : tot (rowOf p) ≤ p.length + 1 := by
  unfold rowOf
  exact Nat.le_trans (tot_filter _ _) (Nat.le_of_eq (spl_tot 47 p))
theorem tot_mem {q : Oct} : ∀ {ps : List Oct}, q ∈ ps → q.length + 1 ≤ tot ps
  | p :: ps, h => by
    rw [tot_cons]
    rcases List.mem_cons.mp h with rfl | h
    · omega
    · have := tot_mem h; omega
theorem minF_mem : ∀ (xss : List (List Oct)) (x : List Oct), xss.foldl minS x = x ∨ xss.foldl minS x ∈ xss
  | [], x => .inl rfl
  | y :: xss, x => by
    rw [List.foldl_cons]
    rcases minF_mem xss (minS x y) with e | e
    · rw [e]; unfold minS; split
      · exact .inr List.mem_cons_self
      · exact .inl rfl
    · exact .inr (List.mem_cons_of_mem _ e)
theorem maxF_mem : ∀ (xss : List (List Oct)) (x : List Oct), xss.foldl maxS x = x ∨ xss.foldl maxS x ∈ xss
  | [], x => .inl rfl
  | y :: xss, x => by
    rw [List.foldl_cons]
    rcases maxF_mem xss (maxS x y) with e | e
    · rw [e]; unfold maxS; split
      · exact .inr List.mem_cons_self
      · exact .inl rfl
    · exact .inr (List.mem_cons_of_mem _ e)
theorem cmn_tot : ∀ (a b : List Oct), tot (cmn a b) ≤ tot a
  | [], b => by cases b <;> exact Nat.le_refl _
  | x :: as, [] => Nat.zero_le _
  | x :: as, y :: bs => by
    have := cmn_tot as bs
    unfold cmn
    split
    · rw [tot_cons, tot_cons]; omega
    · exact Nat.zero_le _
theorem rows_tot {p : Oct} {ps : List Oct} (hz : tot (p :: ps) ≤ 1000000) : tot ((ps.map rowOf).foldl minS (rowOf p)) ≤ 1000000 ∧ tot ((ps.map rowOf).foldl maxS (rowOf p)) ≤ 1000000 := by
  have h : ∀ q ∈ p :: ps, tot (rowOf q) ≤ 1000000 := fun q hq => Nat.le_trans (rowOf_tot q) (Nat.le_trans (tot_mem hq) hz)
  constructor
  · rcases minF_mem (ps.map rowOf) (rowOf p) with e | e
    · rw [e]; exact h p List.mem_cons_self
    · obtain ⟨q, hq, e'⟩ := List.mem_map.mp e
      rw [← e']; exact h q (List.mem_cons_of_mem _ hq)
  · rcases maxF_mem (ps.map rowOf) (rowOf p) with e | e
    · rw [e]; exact h p List.mem_cons_self
    · obtain ⟨q, hq, e'⟩ := List.mem_map.mp e
      rw [← e']; exact h q (List.mem_cons_of_mem _ hq)
section
variable {g : Glo} {ρ : Loc} {σ : List MO} {sc : Scope} {n : Nat} {Φ : Out → Prop} {rest : List Stmt}
theorem Lp.mono {ρ' : Loc} {σ' : List MO} {ok : Prop} {B B' : Loc → List MO → Prop} {o : Out} (h : Lp ρ' σ' ok B Φ o) (hB : ∀ r s, B r s → B' r s) : Lp ρ' σ' ok B' Φ o := by
  cases h with
  | nx a b => exact .nx a b
  | ct a b => exact .ct a b
  | bk a => exact .bk (hB _ _ a)
  | rt a => exact .rt a
/-- a loop all of whose ends meet -/
theorem ex_forj {tgt iter : Expr} {body : List Stmt} {pos : Pos} {xs : List V} (J : Nat → Loc) (S : Nat → List MO) (ok : Nat → Prop) (ρe : Loc) (σe : List MO) (hsrc : Src g sc n iter ρ σ xs (S 0) tgt) (h0 : Sub (J 0) ρ) (ok0 : ok 0)
    (hturn : ∀ (i : Nat) y, xs[i]? = some y → ok i → ∃ ρ', Asg g sc n tgt y (J i) ρ' ∧ Ex g sc n body ρ' (S i) (Lp (J (i + 1)) (S (i + 1)) (ok (i + 1)) (fun r s => s = σe ∧ Sub ρe r) Φ))
    (hend : ok xs.length → S xs.length = σe ∧ Sub ρe (J xs.length)) (h : Ex g sc n rest ρe σe Φ) (hs : ∀ env x, foldedSetIterable iter env x = pure x := by intro _ _; rfl) :
    Ex g sc n (.For tgt iter body [] pos :: rest) ρ σ Φ :=
  ex_for J S ok hsrc h0 ok0 (fun i y hy hok => let ⟨ρ', a, b⟩ := hturn i y hy hok; ⟨ρ', a, b.mono fun o ho => ho.mono fun r s ⟨e, hr⟩ => e ▸ ex_sub h hr⟩) (fun hok => by obtain ⟨e, hr⟩ := hend hok; rw [e]; exact ex_sub h hr) hs
end
theorem map_getD {α β : Type} (f : α → β) (d : α) : ∀ (l : List α), (List.range l.length).map (fun i => f (l.getD i d)) = l.map f := fun l => by
  apply List.ext_getElem
  · simp
  · intro i h1 h2
    simp at h1 h2
    simp [h2]
theorem filter_getD {α β : Type} (f : α → Bool) (v : α → β) (d : α) (l : List α) : ((List.range l.length).filter fun i => f (l.getD i d)).map (fun i => v (l.getD i d)) = (l.filter f).map v := by
  have h := map_getD (fun a => a) d l
  rw [List.map_id'] at h
  conv => rhs; rw [← h]
  rw [List.filter_map, List.map_map]
  rfl
theorem outs_map {α : Type} (v : α → V) (d : α) (l : List α) {N : Nat} (hN : N = l.length) : outs (fun _ => true) (fun i => v (l.getD i d)) N = l.map v := by
  subst hN; rw [outs_all]; exact map_getD v d l
theorem outs_filter {α : Type} (f : α → Bool) (v : α → V) (d : α) (l : List α) {N : Nat} (hN : N = l.length) : outs (fun i => f (l.getD i d)) (fun i => v (l.getD i d)) N = (l.filter f).map v := by
  subst hN; exact filter_getD f v d l
theorem capt_sub {scope sc : Scope} {ρ : Loc} {x : Str} {y : V} (hx : ((relab scope sc).names.lookup x == some .cell) = false := by decide +kernel) : Sub (capt scope sc ρ) ((x, y) :: capt scope sc ρ) := fun z w e => by
  by_cases h : z = x
  · subst h
    unfold capt at e
    rw [lookup_filter (q := fun p => (relab scope sc).names.lookup p == some .cell), if_neg (by rw [hx]; decide)] at e
    cases e
  · rw [List.lookup_cons]
    have hb : (z == x) = false := by simpa using h
    rw [hb]; exact e
section
variable {g : Glo} (H : Has g pw) {k : Kd} (T : TxOps g k) (C : TxCmp g k) {σ : List MO}
include H T C
theorem c_common (p : Oct) (ps : List Oct) (b : Bool) (hb : ∀ q ∈ p :: ps, rooted q = b) (hz : tot (p :: ps) ≤ 1000000) : Fn g 8 "commonpath" [.list ((p :: ps).map (.tx k))] σ (.tx k (cpOf b p ps)) σ := by
  have hl := tot_length (p :: ps)
  rw [List.length_cons] at hl
  refine fn_at ["paths"] (H.defs 25 _ _ _ _ _ _ _ _ _ _ rfl (by decide)) (fun _ _ _ vs h => by obtain ⟨_, rfl⟩ := vlen1 h; rfl) ?_
  refine ex_step ex1_doc ?_
  refine ex_step (ex1_assign (ev_tmap (m := 2) ev_name (fun x hx => by obtain ⟨q, _, rfl⟩ := List.mem_map.mp hx; exact c_fspath H k q σ) (by simp) (by simp; omega))) ?_
  refine ex_if (evb_not (evb_val rfl ev_name (tr_tup (by simp; omega)))) (fun h => by simp at h) (fun _ => ?_)
  refine ex_ifj (σ' := σ) (ρ' := [("curdir", .tx k [46]), ("sep", .tx k [47]), ("paths", .tup ((p :: ps).map (.tx k)))]) (evb_val rfl (ev_blt (evl_cons (ev_sub ev_name ev_int .tup (op_item_tup (y := .tx k p) (by decide) (by decide) rfl)) (evl_cons ev_type evl_nil)) op_isbytes) tr_bool) (fun h => ?_) (fun h => ?_) ?_
  · cases k with
    | s => cases h
    | b => exact ex_step (ex1_assign ev_bytes) (ex_step (ex1_assign ev_bytes) (ex_nil ⟨_, rfl, sub_of ⟨rfl, rfl, rfl, trivial⟩⟩))
  · cases k with
    | s => exact ex_step (ex1_assign (ev_str (l := [47]) (by decide +kernel))) (ex_step (ex1_assign (ev_str (l := [46]) (by decide +kernel))) (ex_nil ⟨_, rfl, sub_of ⟨rfl, rfl, rfl, trivial⟩⟩))
    | b => cases h
  refine ex_try ?_
  refine ex_step (ex1_lc (xs := (p :: ps).map (.tx k)) (y := .list ((p :: ps).map fun q => lsV k (spl 47 q))) (fun _ => true) (fun i => lsV k (spl 47 ((p :: ps).getD i []))) (src_tup ev_name rfl) (by simp; omega) (fun i y hy => ?_) ?_) ?_
  · rw [List.getElem?_map] at hy
    obtain ⟨q, hq, rfl⟩ := Option.map_eq_some_iff.mp hy
    have e : (p :: ps).getD i [] = q := by rw [List.getD_eq_getElem?_getD, hq]; rfl
    have hql := tot_mem (List.mem_of_getElem? hq)
    rw [e]
    exact ⟨_, asg_name, capt_sub, tst_nil, fun _ => ev_meth ev_name (evl_cons ev_name evl_nil) (T.split _ _ q 47 (by omega))⟩
  · rw [outs_map (fun q => lsV k (spl 47 q)) [] (p :: ps) (by simp)]
  refine ex_try ?_
  refine ex_step (ex1_set b (xs := (p :: ps).map (.tx k)) (src_tup ev_name rfl) (by simp) (by simp; omega) (fun i y hy => ?_)) (ex_nil ?_)
  · rw [List.getElem?_map] at hy
    obtain ⟨q, hq, rfl⟩ := Option.map_eq_some_iff.mp hy
    have e : (q.head? == some 47) = b := hb q (List.mem_of_getElem? hq)
    rw [← e]
    exact ⟨_, asg_name, capt_sub, ev_meth ev_name (evl_cons ev_name evl_nil) (T.starts _ _ q 47)⟩
  show Ex g _ _ _ _ _ _
  refine ex_step (ex1_lc (xs := (p :: ps).map fun q => lsV k (spl 47 q)) (y := lssV k (rowOf p :: ps.map rowOf)) (fun _ => true) (fun i => lsV k (rowOf ((p :: ps).getD i []))) (src_list ev_name (.inl rfl)) (by simp; omega) (fun i y hy => ?_) ?_) ?_
  · rw [List.getElem?_map] at hy
    obtain ⟨q, hq, rfl⟩ := Option.map_eq_some_iff.mp hy
    have e : (p :: ps).getD i [] = q := by rw [List.getD_eq_getElem?_getD, hq]; rfl
    have hql := tot_mem (List.mem_of_getElem? hq)
    have hsl := spl_length 47 q
    rw [e]
    refine ⟨_, asg_name, capt_sub, tst_nil, fun _ => ev_lc (xs := (spl 47 q).map (.tx k)) (fun j => !((spl 47 q).getD j []).isEmpty && (spl 47 q).getD j [] != [46]) (fun j => .tx k ((spl 47 q).getD j [])) (src_list ev_name (.inl rfl)) (by simp; omega) (fun j y hy => ?_) ?_⟩
    · rw [List.getElem?_map] at hy
      obtain ⟨c, hc, rfl⟩ := Option.map_eq_some_iff.mp hy
      have e : (spl 47 q).getD j [] = c := by rw [List.getD_eq_getElem?_getD, hc]; rfl
      have hcl := tot_mem (List.mem_of_getElem? hc)
      rw [spl_tot] at hcl
      rw [e]
      exact ⟨_, asg_name, capt_sub, tst_one (evb_and (evb_val rfl ev_name (tr_tx (by omega))) fun _ => evb_cmp ev_name ev_name op_ne_tx), fun _ => ev_name⟩
    · rw [outs_filter (fun c : Oct => !c.isEmpty && c != [46]) (V.tx k) [] (spl 47 q) (by simp)]; rfl
  · rw [outs_map (fun q => lsV k (rowOf q)) [] (p :: ps) (by simp)]
    show V.list _ = _
    simp
  refine ex_step (ex1_assign (ev_blt (evl_cons ev_name evl_nil) (op_min C))) ?_
  refine ex_step (ex1_assign (ev_blt (evl_cons ev_name evl_nil) (op_max C))) ?_
  refine ex_step (ex1_assign ev_name) ?_
  have hmm := min_le_max (ps.map rowOf) (rowOf p)
  have hrt := rows_tot hz
  have hcp : cpRows p ps = cmn ((ps.map rowOf).foldl minS (rowOf p)) ((ps.map rowOf).foldl maxS (rowOf p)) := rfl
  generalize (ps.map rowOf).foldl minS (rowOf p) = S1 at hmm hrt hcp ⊢
  generalize (ps.map rowOf).foldl maxS (rowOf p) = S2 at hmm hrt hcp ⊢
  have hl1 := tot_length S1
  have hl2 := tot_length S2
  refine ex_forj (xs := ((S1.map (.tx k)).zipIdx.map fun p => .tup [.int p.2, p.1])) (fun _ => [("s1", lsV k S1), ("s2", lsV k S2), ("common", lsV k S1), ("isabs", .bool b), ("sep", .tx k [47])]) (fun _ => σ) (fun i => ∀ j, j < i → S1[j]? = S2[j]?) [("common", lsV k (cpRows p ps)), ("isabs", .bool b), ("sep", .tx k [47])] σ
    (src_enum ev_name) (sub_of ⟨rfl, rfl, rfl, rfl, rfl, trivial⟩) (fun j hj => absurd hj (Nat.not_lt_zero _)) (fun i y hy hok => ?_) (fun hok => ⟨rfl, ?_⟩) ?_
  · rw [List.getElem?_map] at hy
    obtain ⟨⟨c', j⟩, hc, rfl⟩ := Option.map_eq_some_iff.mp hy
    rw [List.getElem?_zipIdx, List.getElem?_map] at hc
    obtain ⟨c'', hc1, hc2⟩ := Option.map_eq_some_iff.mp hc
    obtain ⟨c, hc3, rfl⟩ := Option.map_eq_some_iff.mp hc1
    cases hc2
    have hi : i < S1.length := (List.getElem?_eq_some_iff.mp hc3).1
    have hi2 := le_idx S1 S2 hmm i hi hok
    have hd : S2[i]? = some S2[i] := List.getElem?_eq_getElem hi2
    refine ⟨_, asg_tup (asgl_cons asg_name (asgl_cons asg_name asgl_nil)), ?_⟩
    have e0 : ((0 + i : Nat) : Int) = (i : Int) := by omega
    refine ex_if (evb_cmp ev_name (ev_sub ev_name ev_name (.lst (.inl rfl)) (op_item_list (y := .tx k S2[i]) (.inl rfl) (by omega) (by omega) (by simp [hd]))) op_ne_tx) (fun hne => ?_) (fun heq => ?_)
    · have hne' : c ≠ S2[i] := by simpa using hne
      refine ex_step (ex1_assign (ev_slcL ev_name evp_none (evp_some ev_name) (by simp; omega))) (ex_brk (.bk ⟨rfl, sub_of ⟨?_, rfl, rfl, trivial⟩⟩))
      rw [e0, psl_upto]
      have : cpRows p ps = S1.take i := hcp.trans (cmn_take S1 S2 i c S2[i] hok hc3 hd hne')
      rw [this, ← List.map_take]
      rfl
    · have heq' : c = S2[i] := by simpa using heq
      refine ex_nil (.nx (fun j hj => ?_) (sub_of ⟨rfl, rfl, rfl, rfl, rfl, trivial⟩))
      rcases Nat.lt_succ_iff_lt_or_eq.mp hj with hj | rfl
      · exact hok j hj
      · rw [hc3, hd, heq']
  · have : cpRows p ps = S1 := hcp.trans (cmn_all S1 S2 (by simpa using hok))
    rw [this]
    exact sub_of ⟨rfl, rfl, rfl, trivial⟩
  · have hct : tot (cpRows p ps) ≤ 1000000 := by rw [hcp]; exact Nat.le_trans (cmn_tot S1 S2) hrt.1
    have hjl := jn_len (cpRows p ps)
    refine ex_step (ex1_assign (x := .tx k (if b then [47] else [])) (ev_eq (ev_if (c := b) (evb_val rfl ev_name tr_bool) (fun _ => ev_name) (fun _ => ev_slc T.slc ev_name evp_none (evp_some ev_int) (by decide))) ?_)) ?_
    · cases b <;> rfl
    have hpl : (if b then [47] else [] : Oct).length ≤ 1 := by cases b <;> decide
    exact ex_ret (ev_bin ev_name (ev_meth ev_name (evl_cons ev_name evl_nil) (T.join _ _ [47] (cpRows p ps) _ (.inl rfl) (Nat.le_trans (show tot (cpRows p ps) ≤ 1000000 from hct) (by decide)))) (T.add _ _ (if b then [47] else []) (jn [47] (cpRows p ps)) (by omega))) ret_end
end
end Mine
end
section
open PySem PySem.W PyProof.Rows PySem.Calls PySem.SeqAt
set_option Elab.async false
set_option linter.unusedVariables false
set_option maxRecDepth 100000
namespace Mine
section
variable {g : Glo} (H : Has g pw) {k : Kd} (T : TxOps g k) {σ : List MO}
include H T
/-- some have a root, some have none -/
theorem c_commonX (p : Oct) (ps : List Oct) (hT : ∃ q ∈ p :: ps, rooted q = true) (hF : ∃ q ∈ p :: ps, rooted q = false) (hz : tot (p :: ps) ≤ 1000000) : FnX g 8 "commonpath" [.list ((p :: ps).map (.tx k))] σ "ValueError" := by
  have hl := tot_length (p :: ps)
  rw [List.length_cons] at hl
  refine fnX_at ["paths"] (H.defs 25 _ _ _ _ _ _ _ _ _ _ rfl (by decide)) (fun _ _ _ vs h => by obtain ⟨_, rfl⟩ := vlen1 h; rfl) ?_
  refine exX_step ex1_doc ?_
  refine exX_step (ex1_assign (ev_tmap (m := 2) ev_name (fun x hx => by obtain ⟨q, _, rfl⟩ := List.mem_map.mp hx; exact c_fspath H k q σ) (by simp) (by simp; omega))) ?_
  refine exX_skip (evb_eq (evb_not (evb_val rfl ev_name (tr_tup (by simp; omega)))) (by simp)) ?_
  refine exX_ifj (ρ' := [("curdir", .tx k [46]), ("sep", .tx k [47]), ("paths", .tup ((p :: ps).map (.tx k)))]) (evb_val rfl (ev_blt (evl_cons (ev_sub ev_name ev_int .tup (op_item_tup (y := .tx k p) (by decide) (by decide) rfl)) (evl_cons ev_type evl_nil)) op_isbytes) tr_bool) (fun h => ?_) (fun h => ?_) ?_
  · cases k with
    | s => cases h
    | b => exact ex_step (ex1_assign ev_bytes) (ex_step (ex1_assign ev_bytes) (ex_nil ⟨_, rfl, sub_of ⟨rfl, rfl, rfl, trivial⟩⟩))
  · cases k with
    | s => exact ex_step (ex1_assign (ev_str (l := [47]) (by decide +kernel))) (ex_step (ex1_assign (ev_str (l := [46]) (by decide +kernel))) (ex_nil ⟨_, rfl, sub_of ⟨rfl, rfl, rfl, trivial⟩⟩))
    | b => cases h
  refine exX_miss ?_
  refine exX_step (ex1_lc (xs := (p :: ps).map (.tx k)) (y := .list ((p :: ps).map fun q => lsV k (spl 47 q))) (fun _ => true) (fun i => lsV k (spl 47 ((p :: ps).getD i []))) (src_tup ev_name rfl) (by simp; omega) (fun i y hy => ?_) ?_) ?_
  · rw [List.getElem?_map] at hy
    obtain ⟨q, hq, rfl⟩ := Option.map_eq_some_iff.mp hy
    have e : (p :: ps).getD i [] = q := by rw [List.getD_eq_getElem?_getD, hq]; rfl
    have hql := tot_mem (List.mem_of_getElem? hq)
    rw [e]
    exact ⟨_, asg_name, capt_sub, tst_nil, fun _ => ev_meth ev_name (evl_cons ev_name evl_nil) (T.split _ _ q 47 (by omega))⟩
  · rw [outs_map (fun q => lsV k (spl 47 q)) [] (p :: ps) (by simp)]
  refine exX_reraise (exN_set (xs := (p :: ps).map (.tx k)) (fun i => rooted ((p :: ps).getD i [])) (src_tup ev_name rfl) (by simp; omega) (fun i y hy => ?_) ?_ ?_)
  · rw [List.getElem?_map] at hy
    obtain ⟨q, hq, rfl⟩ := Option.map_eq_some_iff.mp hy
    have e : (p :: ps).getD i [] = q := by rw [List.getD_eq_getElem?_getD, hq]; rfl
    rw [e]
    exact ⟨_, asg_name, capt_sub, ev_meth ev_name (evl_cons ev_name evl_nil) (T.starts _ _ q 47)⟩
  · obtain ⟨q, hq, e⟩ := hT
    obtain ⟨i, hi⟩ := List.mem_iff_getElem?.mp hq
    refine ⟨i, by rw [List.length_map]; exact (List.getElem?_eq_some_iff.mp hi).1, ?_⟩
    show rooted ((p :: ps).getD i []) = true
    rw [List.getD_eq_getElem?_getD, hi]; exact e
  · obtain ⟨q, hq, e⟩ := hF
    obtain ⟨i, hi⟩ := List.mem_iff_getElem?.mp hq
    refine ⟨i, by rw [List.length_map]; exact (List.getElem?_eq_some_iff.mp hi).1, ?_⟩
    show rooted ((p :: ps).getD i []) = false
    rw [List.getD_eq_getElem?_getD, hi]; exact e
end
end Mine
end
section
open PySem PySem.W PyProof.Rows PySem.Calls PySem.SeqAt
set_option Elab.async false
set_option linter.unusedVariables false
set_option maxRecDepth 100000
namespace Mine
noncomputable def sl (m : Nat) : Oct := List.replicate m 47
noncomputable def ssp : List (Oct × Nat) → Oct
  | [] => []
  | x :: l => x.1 ++ sl x.2 ++ ssp l
noncomputable def WN (n : Oct) : Prop := n ≠ [] ∧ 47 ∉ n
structure WF (l : List (Oct × Nat)) : Prop where
  wn : ∀ x ∈ l, WN x.1
  ge : ∀ x ∈ l.dropLast, 1 ≤ x.2
noncomputable def nms (l : List (Oct × Nat)) : List Oct := l.map (·.1)
theorem ssp_append : ∀ (a b : List (Oct × Nat)), ssp (a ++ b) = ssp a ++ ssp b
  | [], b => rfl
  | x :: a, b => by show x.1 ++ sl x.2 ++ ssp (a ++ b) = _; rw [ssp_append a b]; simp [ssp]
theorem ssp_one (n : Oct) (k : Nat) : ssp [(n, k)] = n ++ sl k := by simp [ssp]
theorem snoc_cases {α : Type} (l : List α) : l = [] ∨ ∃ l' x, l = l' ++ [x] := by
  rcases List.eq_nil_or_concat l with h | ⟨l', x, h⟩
  · exact .inl h
  · exact .inr ⟨l', x, by simpa using h⟩
/-- nothing, or a slash at the end -/
noncomputable def EndS (p : Oct) : Prop := p = [] ∨ ∃ q, p = q ++ [47]
theorem sl_succ (m : Nat) : sl (m + 1) = sl m ++ [47] := by unfold sl; rw [List.replicate_succ']
theorem sl_mem {m : Nat} {c : UInt8} (h : c ∈ sl m) : c = 47 := List.eq_of_mem_replicate h
theorem endS_sl (m : Nat) : EndS (sl m) := by
  cases m with
  | zero => exact .inl rfl
  | succ m => exact .inr ⟨sl m, sl_succ m⟩
theorem endS_ssp (m : Nat) (l : List (Oct × Nat)) (h : ∀ x ∈ l, 1 ≤ x.2) : EndS (sl m ++ ssp l) := by
  rcases snoc_cases l with rfl | ⟨l', ⟨n, k⟩, rfl⟩
  · rw [show ssp [] = ([] : Oct) from rfl, List.append_nil]; exact endS_sl m
  · have hk := h (n, k) (by simp)
    obtain ⟨j, rfl⟩ : ∃ j, k = j + 1 := ⟨k - 1, by simp at hk; omega⟩
    exact .inr ⟨sl m ++ ssp l' ++ n ++ sl j, by rw [ssp_append, ssp_one, sl_succ]; simp⟩
theorem aft_pre {pre n : Oct} (he : EndS pre) (hn : 47 ∉ n) : aft 47 (pre ++ n) = pre.length := by
  rcases he with rfl | ⟨q, rfl⟩
  · exact aft_none 47 n hn
  · rw [List.append_assoc, List.singleton_append, aft_at 47 q n hn]; simp
theorem bn_pre {pre n : Oct} (he : EndS pre) (hn : 47 ∉ n) : bn (pre ++ n) = n := by
  unfold bn; rw [aft_pre he hn]; simp
theorem dn_pre {pre n : Oct} (he : EndS pre) (hn : 47 ∉ n) : dn (pre ++ n) = hd' pre := by
  unfold dn; rw [aft_pre he hn]; simp
theorem run_iff (p : Oct) : isRun p = true ↔ ∀ c ∈ p, c = 47 := by
  unfold isRun
  rw [rep_one, beq_iff_eq]
  exact List.eq_replicate_iff.trans ⟨fun h => h.2, fun h => ⟨rfl, h⟩⟩
theorem hd_sl (m : Nat) : hd' (sl m) = sl m := by
  unfold hd'
  have : isRun (sl m) = true := (run_iff _).mpr fun c h => sl_mem h
  rw [this]; simp
theorem rst_sl {x : Oct} (h : ∀ q, x ≠ q ++ [47]) : ∀ k, rst 47 (x ++ sl k) = x
  | 0 => by
    rw [show sl 0 = ([] : Oct) from rfl, List.append_nil]
    rcases snoc_cases x with rfl | ⟨q, c, rfl⟩
    · rfl
    · have hc : c ≠ 47 := fun e => h q (by rw [e])
      unfold rst
      rw [List.reverse_append, List.reverse_singleton, List.singleton_append, List.dropWhile_cons_of_neg (by simpa using hc)]
      simp
  | k + 1 => by
    have ih := rst_sl h k
    rw [sl_succ, ← List.append_assoc]
    unfold rst at ih ⊢
    rw [List.reverse_append, List.reverse_singleton, List.singleton_append, List.dropWhile_cons_of_pos (by simp)]
    exact ih
theorem WN.noend {n : Oct} (h : WN n) (x : Oct) : ∀ q, x ++ n ≠ q ++ [47] := fun q e => by
  rcases snoc_cases n with rfl | ⟨n', c, rfl⟩
  · exact h.1 rfl
  · rw [← List.append_assoc] at e
    have := List.append_inj_right' e rfl
    have hc : c = 47 := by simpa using this
    exact h.2 (by simp [hc])
theorem hd_name {n : Oct} (h : WN n) (x : Oct) (k : Nat) : hd' (x ++ n ++ sl k) = x ++ n := by
  unfold hd'
  have h1 : isRun (x ++ n ++ sl k) = false := by
    rw [← Bool.not_eq_true, run_iff]
    intro hh
    obtain ⟨c, hc⟩ := List.exists_mem_of_ne_nil n h.1
    have := hh c (by simp [hc])
    exact h.2 (this ▸ hc)
  have h2 : (x ++ n ++ sl k).isEmpty = false := by
    cases hq : x ++ n ++ sl k with
    | nil => simp at hq; exact absurd hq.2.1 h.1
    | cons => rfl
  rw [h1, h2]
  simp only [Bool.not_false, Bool.and_self, if_true]
  exact rst_sl (h.noend x) k
/-- the last run of slashes, dropped -/
noncomputable def zr (l : List (Oct × Nat)) : List (Oct × Nat) := match l.getLast? with
  | none => []
  | some x => l.dropLast ++ [(x.1, 0)]
theorem zr_snoc (l : List (Oct × Nat)) (n : Oct) (k : Nat) : zr (l ++ [(n, k)]) = l ++ [(n, 0)] := by simp [zr]
theorem hd_ssp (m : Nat) (l : List (Oct × Nat)) (h : ∀ x ∈ l, WN x.1) : hd' (sl m ++ ssp l) = sl m ++ ssp (zr l) := by
  rcases snoc_cases l with rfl | ⟨l', ⟨n, k⟩, rfl⟩
  · rw [show ssp [] = ([] : Oct) from rfl, show ssp (zr []) = ([] : Oct) from rfl, List.append_nil]; exact hd_sl m
  · rw [zr_snoc, ssp_append, ssp_append, ssp_one, ssp_one, ← List.append_assoc, ← List.append_assoc, show sl 0 = ([] : Oct) from rfl, List.append_nil]
    have := hd_name (h (n, k) (by simp)) (sl m ++ ssp l') k
    rw [List.append_assoc] at this ⊢
    simpa [List.append_assoc] using this

theorem WF.init {l : List (Oct × Nat)} {x : Oct × Nat} (h : WF (l ++ [x])) : WF l ∧ (∀ y ∈ l, 1 ≤ y.2) ∧ WN x.1 := by
  have hg : ∀ y ∈ l, 1 ≤ y.2 := fun y hy => h.ge y (by rw [List.dropLast_concat]; exact hy)
  exact ⟨⟨fun y hy => h.wn y (by simp [hy]), fun y hy => hg y (List.dropLast_subset l hy)⟩, hg, h.wn x (by simp)⟩
theorem nms_snoc (l : List (Oct × Nat)) (x : Oct × Nat) : nms (l ++ [x]) = nms l ++ [x.1] := by simp [nms]
theorem aft_app_in {c : UInt8} (pre : Oct) {n : Oct} (h : c ∈ n) : aft c (pre ++ n) = pre.length + aft c n := by
  rcases aft_spec c n with ⟨h1, _⟩ | ⟨a, b, rfl, hb, e⟩
  · exact absurd h h1
  · rw [e, ← List.append_assoc, aft_at c _ b hb]; simp; omega
theorem aft_app_out {c : UInt8} (pre : Oct) {n : Oct} (h : c ∉ n) : aft c (pre ++ n) ≤ pre.length := by
  rcases aft_spec c pre with ⟨h1, _⟩ | ⟨a, b, rfl, hb, e⟩
  · rw [aft_none c _ (by simp [h1, h])]; exact Nat.zero_le _
  · rw [List.append_assoc, List.cons_append, aft_at c a (b ++ n) (by simp [hb, h])]; simp
theorem sx_pre {pre n : Oct} (he : EndS pre) (hn : 47 ∉ n) : sx (pre ++ n) = (pre ++ (sx n).1, (sx n).2) := by
  have h47 := aft_pre he hn
  have h0 : aft 47 n = 0 := aft_none 47 n hn
  unfold sx
  rw [h47, h0]
  by_cases h : (46 : UInt8) ∈ n
  · have e := aft_app_in pre h
    have hpos : 0 < aft 46 n := by
      rcases aft_spec 46 n with ⟨h1, _⟩ | ⟨a, b, _, _, e⟩
      · exact absurd h h1
      · omega
    rw [e]
    have e1 : pre.length + aft 46 n - 1 = pre.length + (aft 46 n - 1) := by omega
    rw [e1, List.take_length_add_append, List.drop_length_add_append]
    have c1 : (decide (pre.length < pre.length + aft 46 n) && ((pre ++ n.take (aft 46 n - 1)).drop pre.length).any (· != 46)) = (decide (0 < aft 46 n) && ((n.take (aft 46 n - 1)).drop 0).any (· != 46)) := by
      rw [List.drop_left, List.drop_zero]
      have : decide (pre.length < pre.length + aft 46 n) = decide (0 < aft 46 n) := by simp
      rw [this]
    rw [c1]
    split <;> rfl
  · have e := aft_app_out pre h
    have e2 := aft_none 46 n h
    rw [if_neg (by simp; omega), if_neg (by rw [e2]; simp)]
-- paths cut at slashes
theorem spl_sl : ∀ (m : Nat) (p : Oct), (spl 47 (sl m ++ p)).filter (fun c => !c.isEmpty) = (spl 47 p).filter (fun c => !c.isEmpty)
  | 0, p => rfl
  | m + 1, p => by
    show (spl 47 (47 :: (sl m ++ p))).filter _ = _
    rw [spl, if_pos rfl, List.filter_cons_of_neg (by simp)]
    exact spl_sl m p
theorem spl_name {n : Oct} (h : WN n) (k : Nat) (p : Oct) (hk : 1 ≤ k ∨ p = []) : (spl 47 (n ++ sl k ++ p)).filter (fun c => !c.isEmpty) = n :: (spl 47 p).filter (fun c => !c.isEmpty) := by
  have hne : (!n.isEmpty) = true := by
    cases hn : n with
    | nil => exact absurd hn h.1
    | cons => rfl
  cases k with
  | zero =>
    rcases hk with hk | rfl
    · omega
    · rw [show sl 0 = ([] : Oct) from rfl, List.append_nil, List.append_nil, spl_free_only 47 n h.2, List.filter_cons_of_pos (by exact hne)]
      rfl
  | succ k =>
    have e : n ++ sl (k + 1) ++ p = n ++ 47 :: (sl k ++ p) := by
      show n ++ (47 :: sl k) ++ p = _
      simp
    rw [e, spl_append 47 n _ h.2, List.filter_cons_of_pos (by exact hne), spl_sl]
theorem WF.tail {x : Oct × Nat} {l : List (Oct × Nat)} (h : WF (x :: l)) : WF l ∧ WN x.1 ∧ (1 ≤ x.2 ∨ l = []) := by
  refine ⟨⟨fun y hy => h.wn y (List.mem_cons_of_mem _ hy), fun y hy => ?_⟩, h.wn x List.mem_cons_self, ?_⟩
  · cases l with
    | nil => simp at hy
    | cons z l => exact h.ge y (by rw [List.dropLast_cons_of_ne_nil (by simp)]; exact List.mem_cons_of_mem _ hy)
  · cases l with
    | nil => exact .inr rfl
    | cons z l => exact .inl (h.ge x (by rw [List.dropLast_cons_of_ne_nil (by simp)]; exact List.mem_cons_self))
theorem spl_ssp : ∀ (l : List (Oct × Nat)), WF l → (spl 47 (ssp l)).filter (fun c => !c.isEmpty) = nms l
  | [], _ => rfl
  | x :: l, h => by
    obtain ⟨h1, h2, h3⟩ := h.tail
    show (spl 47 (x.1 ++ sl x.2 ++ ssp l)).filter _ = x.1 :: nms l
    rw [spl_name h2 x.2 (ssp l) (h3.imp id fun e => by rw [e]; rfl), spl_ssp l h1]
theorem nps_nil (r : Bool) (acc : List Oct) : npS r acc [] = acc := by simp [npS]
theorem nps_filter (r : Bool) : ∀ (cs acc : List Oct), (cs.filter fun c => !c.isEmpty).foldl (npS r) acc = cs.foldl (npS r) acc
  | [], acc => rfl
  | c :: cs, acc => by
    rw [List.foldl_cons]
    cases c with
    | nil => rw [List.filter_cons_of_neg (by simp), nps_nil]; exact nps_filter r cs acc
    | cons x c => rw [List.filter_cons_of_pos (by simp), List.foldl_cons]; exact nps_filter r cs _
theorem ssp_head {l : List (Oct × Nat)} (h : WF l) : ∀ r, ssp l ≠ 47 :: r := fun r e => by
  cases l with
  | nil => cases e
  | cons x l =>
    obtain ⟨_, h2, _⟩ := h.tail
    cases hx : x.1 with
    | nil => exact h2.1 hx
    | cons c n =>
      have : ssp (x :: l) = c :: (n ++ sl x.2 ++ ssp l) := by show x.1 ++ sl x.2 ++ ssp l = _; rw [hx]; simp
      rw [this] at e
      injection e with e1 _
      exact h2.2 (by rw [hx, e1]; exact List.mem_cons_self)
/-- what a front makes the root -/
noncomputable def rootOf (m : Nat) : Oct := if m = 0 then [] else if m = 2 then [47, 47] else [47]
theorem srt_ssp (m : Nat) {l : List (Oct × Nat)} (h : WF l) : ∃ m', srt (sl m ++ ssp l) = (rootOf m, sl m' ++ ssp l) := by
  have hh := ssp_head h
  generalize ssp l = p at hh
  match m with
  | 0 =>
    refine ⟨0, ?_⟩
    show srt p = ([], p)
    unfold srt
    rw [if_pos]
    cases p with
    | nil => rfl
    | cons c p =>
      have : c ≠ 47 := fun e => hh p (by rw [e])
      simpa [bne_iff_ne] using this
  | 1 =>
    refine ⟨0, ?_⟩
    show srt (47 :: p) = ([47], p)
    unfold srt
    rw [if_neg (by simp), if_pos]
    · rfl
    · cases p with
      | nil => rfl
      | cons c p =>
        have : c ≠ 47 := fun e => hh p (by rw [e])
        simp [bne_iff_ne, this]
  | 2 =>
    refine ⟨0, ?_⟩
    show srt (47 :: 47 :: p) = ([47, 47], p)
    unfold srt
    rw [if_neg (by simp), if_neg]
    · rfl
    · cases p with
      | nil => simp
      | cons c p =>
        have : c ≠ 47 := fun e => hh p (by rw [e])
        simp [this]
  | m + 3 =>
    refine ⟨m + 2, ?_⟩
    have : rootOf (m + 3) = [47] := by unfold rootOf; rw [if_neg (by omega), if_neg (by omega)]
    rw [this]
    show srt (47 :: 47 :: 47 :: (sl m ++ p)) = ([47], 47 :: 47 :: (sl m ++ p))
    unfold srt
    rw [if_neg (by simp), if_pos (by simp)]
    rfl
theorem npC_ssp (m : Nat) {l : List (Oct × Nat)} (h : WF l) : npC (sl m ++ ssp l) = (nms l).foldl (npS (decide (m ≠ 0))) [] := by
  obtain ⟨m', e⟩ := srt_ssp m h
  unfold npC
  rw [e]
  have hr : (!(rootOf m).isEmpty) = decide (m ≠ 0) := by
    unfold rootOf
    by_cases h0 : m = 0
    · simp [h0]
    · rw [if_neg h0]; by_cases h2 : m = 2 <;> simp [h2, h0]
  rw [hr]
  show (spl 47 (sl m' ++ ssp l)).foldl _ [] = _
  rw [← nps_filter, spl_sl, spl_ssp l h]
theorem np_ssp (m : Nat) {l : List (Oct × Nat)} (h : WF l) : np (sl m ++ ssp l) = if rootOf m ++ jn [47] ((nms l).foldl (npS (decide (m ≠ 0))) []) = [] then [46] else rootOf m ++ jn [47] ((nms l).foldl (npS (decide (m ≠ 0))) []) := by
  unfold np
  rw [npC_ssp m h]
  obtain ⟨m', e⟩ := srt_ssp m h
  rw [e]
  dsimp only
  by_cases h0 : sl m ++ ssp l = []
  · obtain ⟨h1, h2⟩ := List.append_eq_nil_iff.mp h0
    have hm : m = 0 := by cases m with | zero => rfl | succ m => cases h1
    have hl : l = [] := by
      cases l with
      | nil => rfl
      | cons x l =>
        obtain ⟨_, hw, _⟩ := h.tail
        have : x.1 ++ sl x.2 ++ ssp l = [] := h2
        simp at this
        exact absurd this.1 hw.1
    subst hm hl
    rfl
  · rw [if_neg (by simpa using h0)]
    simp only [List.isEmpty_iff]

/-- a path that spells names after slashes -/
noncomputable def Spl (m : Nat) (L : List Oct) (p : Oct) : Prop := ∃ l, WF l ∧ nms l = L ∧ p = sl m ++ ssp l
theorem endS_ge {m : Nat} {l : List (Oct × Nat)} (h : WF l) (he : EndS (sl m ++ ssp l)) : ∀ x ∈ l, 1 ≤ x.2 := by
  rcases snoc_cases l with rfl | ⟨l', ⟨n, k⟩, rfl⟩
  · intro x hx; simp at hx
  · obtain ⟨h1, h2, h3⟩ := h.init
    intro x hx
    rcases List.mem_append.mp hx with hx | hx
    · exact h2 x hx
    · rw [List.mem_singleton.mp hx]
      cases k with
      | succ k => exact Nat.succ_pos _
      | zero =>
        exfalso
        have e : sl m ++ ssp (l' ++ [(n, 0)]) = (sl m ++ ssp l') ++ n := by
          rw [ssp_append, ssp_one, show sl 0 = ([] : Oct) from rfl, List.append_nil, List.append_assoc]
        rw [e] at he
        rcases he with he | ⟨q, he⟩
        · exact h3.1 (List.append_eq_nil_iff.mp he).2
        · exact h3.noend _ q he
theorem WF.append {l l' : List (Oct × Nat)} (h : WF l) (hg : ∀ x ∈ l, 1 ≤ x.2) (h' : WF l') : WF (l ++ l') := by
  refine ⟨fun x hx => (List.mem_append.mp hx).elim (h.wn x) (h'.wn x), fun x hx => ?_⟩
  cases l' with
  | nil => rw [List.append_nil] at hx; exact h.ge x hx
  | cons y l' =>
    rw [List.dropLast_append_of_ne_nil (by simp)] at hx
    exact (List.mem_append.mp hx).elim (hg x) (h'.ge x)
theorem nms_append (a b : List (Oct × Nat)) : nms (a ++ b) = nms a ++ nms b := by simp [nms]
theorem Spl.concat {m : Nat} {L L' : List Oct} {p c : Oct} (h : Spl m L p) (he : EndS p) (h' : Spl 0 L' c) : Spl m (L ++ L') (p ++ c) := by
  obtain ⟨l, h1, rfl, rfl⟩ := h
  obtain ⟨l', h2, rfl, rfl⟩ := h'
  refine ⟨l ++ l', h1.append (endS_ge h1 he) h2, nms_append l l', ?_⟩
  rw [ssp_append, show sl 0 = ([] : Oct) from rfl, List.nil_append, List.append_assoc]
theorem Spl.slash {m : Nat} {L : List Oct} {p : Oct} (h : Spl m L p) (hL : L ≠ []) : Spl m L (p ++ [47]) := by
  obtain ⟨l, h1, rfl, rfl⟩ := h
  rcases snoc_cases l with rfl | ⟨l', ⟨n, k⟩, rfl⟩
  · exact absurd rfl hL
  · obtain ⟨i1, i2, i3⟩ := h1.init
    refine ⟨l' ++ [(n, k + 1)], i1.append i2 ⟨fun x hx => by rw [List.mem_singleton.mp hx]; exact i3, fun x hx => by simp at hx⟩, by rw [nms_snoc, nms_snoc], ?_⟩
    rw [ssp_append, ssp_append, ssp_one, ssp_one, sl_succ]; simp
theorem Spl.ne {m : Nat} {L : List Oct} {p : Oct} (h : Spl m L p) (hn : ¬ EndS p) : L ≠ [] := by
  rintro rfl
  obtain ⟨l, h1, h2, rfl⟩ := h
  have : l = [] := List.map_eq_nil_iff.mp h2
  subst this
  exact hn (endS_ssp m [] (fun x hx => by simp at hx))
theorem endS_last (p : Oct) : EndS p ↔ p = [] ∨ p.getLast? = some 47 := by
  unfold EndS
  rw [List.getLast?_eq_some_iff]
theorem jo_eq (p : Oct) {c : Oct} (hc : ∀ r, c ≠ 47 :: r) : (EndS p → jo p c = p ++ c) ∧ (¬ EndS p → jo p c = p ++ 47 :: c) := by
  have hh : (c.head? == some 47) = false := by
    cases c with
    | nil => rfl
    | cons x c =>
      have : x ≠ 47 := fun e => hc c (by rw [e])
      simpa using this
  unfold jo
  rw [hh, Bool.false_or]
  cases p with
  | nil => exact ⟨fun _ => rfl, fun h => absurd (.inl rfl) h⟩
  | cons x p =>
    rw [endS_last, if_neg (by simp)]
    constructor
    · rintro (h | h)
      · cases h
      · rw [if_pos (by rw [h]; rfl)]
    · intro h
      rw [if_neg (by intro e; exact h (.inr (by simpa using e)))]; rfl
theorem Spl.head {L : List Oct} {c : Oct} (h : Spl 0 L c) : ∀ r, c ≠ 47 :: r := by
  obtain ⟨l, h1, _, rfl⟩ := h
  exact ssp_head h1
theorem Spl.join {m : Nat} {L L' : List Oct} {p c : Oct} (h : Spl m L p) (h' : Spl 0 L' c) : Spl m (L ++ L') (jo p c) := by
  by_cases he : EndS p
  · rw [(jo_eq p h'.head).1 he]; exact h.concat he h'
  · rw [(jo_eq p h'.head).2 he, show p ++ 47 :: c = (p ++ [47]) ++ c by simp]
    exact (h.slash (h.ne he)).concat (.inr ⟨p, rfl⟩) h'
/-- names, glued -/
noncomputable def mkl : List Oct → List (Oct × Nat)
  | [] => []
  | [n] => [(n, 0)]
  | n :: n' :: N => (n, 1) :: mkl (n' :: N)
theorem ssp_mkl : ∀ N, ssp (mkl N) = jn [47] N
  | [] => rfl
  | [n] => by simp [mkl, ssp, jn, sl]
  | n :: n' :: N => by
    have := ssp_mkl (n' :: N)
    show n ++ sl 1 ++ ssp (mkl (n' :: N)) = n ++ [47] ++ jn [47] (n' :: N)
    rw [this]; rfl
theorem nms_mkl : ∀ N, nms (mkl N) = N
  | [] => rfl
  | [n] => rfl
  | n :: n' :: N => by
    have := nms_mkl (n' :: N)
    show n :: nms (mkl (n' :: N)) = _
    rw [this]
theorem mkl_snoc : ∀ (N : List Oct) (n : Oct), mkl (N ++ [n]) = N.map (fun x => (x, 1)) ++ [(n, 0)]
  | [], n => rfl
  | [a], n => rfl
  | a :: b :: N, n => by
    have := mkl_snoc (b :: N) n
    show (a, 1) :: mkl ((b :: N) ++ [n]) = _
    rw [this]; rfl
theorem wf_mkl (N : List Oct) (h : ∀ n ∈ N, WN n) : WF (mkl N) := by
  rcases snoc_cases N with rfl | ⟨N', n, rfl⟩
  · exact ⟨fun x hx => by simp [mkl] at hx, fun x hx => by simp [mkl] at hx⟩
  · rw [mkl_snoc]
    refine ⟨fun x hx => ?_, fun x hx => ?_⟩
    · rcases List.mem_append.mp hx with hx | hx
      · obtain ⟨y, hy, rfl⟩ := List.mem_map.mp hx
        exact h y (by simp [hy])
      · rw [List.mem_singleton.mp hx]; exact h n (by simp)
    · rw [List.dropLast_concat] at hx
      obtain ⟨y, hy, rfl⟩ := List.mem_map.mp hx
      exact Nat.le_refl _
theorem spl_names (m : Nat) (N : List Oct) (h : ∀ n ∈ N, WN n) : Spl m N (sl m ++ jn [47] N) := ⟨mkl N, wf_mkl N h, nms_mkl N, by rw [ssp_mkl]⟩
end Mine
end
section
open PySem PySem.W PyProof.Rows PySem.Calls PySem.SeqAt
set_option Elab.async false
set_option linter.unusedVariables false
set_option maxRecDepth 100000
namespace Mine
/-- what the law holds -/
structure LS where
  front : Nat
  head : Oct
  gap : Nat
  stem : Oct
  ending : Oct
  word : Bool
  pieces : List Oct
  ups : Nat
  names : List Oct
noncomputable def txL (k : Kd) (l : List Oct) : V := .list (l.map (.tx k))
noncomputable def kSlash : Oct := [115, 108, 97, 115, 104]
noncomputable def kDot : Oct := [100, 111, 116]
noncomputable def kFront : Oct := [102, 114, 111, 110, 116]
noncomputable def kHead : Oct := [104, 101, 97, 100]
noncomputable def kGap : Oct := [103, 97, 112]
noncomputable def kStem : Oct := [115, 116, 101, 109]
noncomputable def kEnding : Oct := [101, 110, 100, 105, 110, 103]
noncomputable def kWord : Oct := [119, 111, 114, 100]
noncomputable def kPieces : Oct := [112, 105, 101, 99, 101, 115]
noncomputable def kUps : Oct := [117, 112, 115]
noncomputable def kNames : Oct := [110, 97, 109, 101, 115]
noncomputable def kPath : Oct := [112, 97, 116, 104]
noncomputable def kRoot : Oct := [114, 111, 111, 116]
noncomputable def kTail : Oct := [116, 97, 105, 108]
noncomputable def kBody : Oct := [98, 111, 100, 121]
noncomputable def kPlain : Oct := [112, 108, 97, 105, 110]
noncomputable def heldV (k : Kd) (s : LS) : List (Str × V) := [(S8 kSlash, .tx k [47]), (S8 kDot, .tx k [46]), (S8 kFront, .int s.front), (S8 kHead, .tx k s.head), (S8 kGap, .int s.gap), (S8 kStem, .tx k s.stem), (S8 kEnding, .tx k s.ending), (S8 kWord, .bool s.word), (S8 kPieces, txL k s.pieces), (S8 kUps, .int s.ups), (S8 kNames, txL k s.names)]
section
variable (k : Kd) (s : LS)
theorem get_slash : (heldV k s).lookup (S8 kSlash) = some (.tx k [47]) := by rfl
theorem get_dot : (heldV k s).lookup (S8 kDot) = some (.tx k [46]) := by rfl
theorem get_front : (heldV k s).lookup (S8 kFront) = some (.int s.front) := by rfl
theorem get_head : (heldV k s).lookup (S8 kHead) = some (.tx k s.head) := by rfl
theorem get_gap : (heldV k s).lookup (S8 kGap) = some (.int s.gap) := by rfl
theorem get_stem : (heldV k s).lookup (S8 kStem) = some (.tx k s.stem) := by rfl
theorem get_ending : (heldV k s).lookup (S8 kEnding) = some (.tx k s.ending) := by rfl
theorem get_word : (heldV k s).lookup (S8 kWord) = some (.bool s.word) := by rfl
theorem get_pieces : (heldV k s).lookup (S8 kPieces) = some (txL k s.pieces) := by rfl
theorem get_ups : (heldV k s).lookup (S8 kUps) = some (.int s.ups) := by rfl
theorem get_names : (heldV k s).lookup (S8 kNames) = some (txL k s.names) := by rfl
end
noncomputable def LS0 : LS := ⟨0, [], 0, [], [], false, [], 0, []⟩
/-- the cells, with what the law holds at i -/
noncomputable def at' (k : Kd) (σ : List MO) (i : Nat) (s : LS) : List MO := σ.set i (.dict (heldV k s))
section
variable {k : Kd} {σ : List MO} {i : Nat} {s s' : LS}
theorem at_get (hi : i < σ.length) : (at' k σ i s)[i]? = some (.dict (heldV k s)) := by unfold at'; simp [hi]
theorem at_set : (at' k σ i s).set i (.dict (heldV k s')) = at' k σ i s' := by unfold at'; rw [List.set_set]
theorem at_len : (at' k σ i s).length = σ.length := by unfold at'; simp
variable {g : Glo} {sc : Scope} {n : Nat} {ρ : Loc}
theorem rd {e : Expr} {x : Str} {key : Oct} {y : V} {kk : Nat} {p p' : Pos} (hi : i < σ.length) (hn : Ev g sc n e ρ (at' k σ i s) (.cell i) (at' k σ i s)) (hg : (heldV k s).lookup (S8 key) = some y) (hx : x = S8 key) : Ev g sc n (.Subscript e (.Constant (.str x) kk p) p') ρ (at' k σ i s) y (at' k σ i s) :=
  ev_sub hn (ev_str hx) (.dict (.inr ⟨_, rfl, at_get hi⟩)) (op_item_dict (.inr ⟨_, rfl, at_get hi⟩) hg)
theorem wr {e v : Expr} {x : Str} {key : Oct} {y : V} {kk : Nat} {p p' p'' : Pos} (hi : i < σ.length) (hv : Ev g sc n v ρ (at' k σ i s) y (at' k σ i s)) (hn : Ev g sc n e ρ (at' k σ i s) (.cell i) (at' k σ i s)) (hp : store (heldV k s) (S8 key) y = heldV k s') (hx : x = S8 key)
    (hs : ∀ env, swapsWith v (some (.Subscript e (.Constant (.str x) kk p) p')) p''.line env = pure false := by intro _; rfl) : Ex1 g sc n (.Assign [.Subscript e (.Constant (.str x) kk p) p'] v p'') ρ (at' k σ i s) ρ (at' k σ i s') := by
  have h := ex1_store (pt := p') (p := p'') hv hn (ev_str (k := kk) (p := p) hx) (at_get hi) (show 11 ≤ 16777216 by decide) hs
  rw [hp, at_set] at h
  exact h
/-- nothing of a text -/
theorem ev_pre0 {e : Expr} {l : Oct} {kk : Nat} {p p' p'' : Pos} {σ₁ : List MO} (T : TxOps g k) (h1 : Ev g sc n e ρ σ (.tx k l) σ) (hz : l.length ≤ 16777216) : Ev g sc n (.Subscript e (.Slice none (some (.Constant (.int 0) kk p)) none p') p'') ρ σ (.tx k []) σ :=
  ev_eq (ev_slc T.slc h1 evp_none (evp_some ev_int) hz) (by rw [show psl l none (some (0 : Int)) = l.take 0 from psl_upto l 0, List.take_zero])
end
theorem cm_tx' (k : Kd) (a b : Oct) : Cm 0 (.tx k a) (.tx k b) (decide (a = b)) := by
  have h := cm_tx k a b
  rwa [show (a == b) = decide (a = b) from Bool.eq_iff_iff.mpr (by simp)] at h
theorem cm_txL (k : Kd) (a b : List Oct) : Cm 1 (txL k a) (txL k b) (decide (a = b)) := cm_list (V.tx k) (cm_tx' k) a b
/-- the ways up and the names, with the last piece -/
noncomputable def pas (s : LS) (t : Oct) : Nat × List Oct :=
  if t = [] ∨ t = [46] then (s.ups, s.names) else if t ≠ [46, 46] then (s.ups, s.names ++ [t]) else if s.names ≠ [] then (s.ups, s.names.dropLast) else if 0 < s.front then (0, []) else (s.ups + 1, [])
section
variable {g : Glo} (H : Has g pw) {k : Kd} (T : TxOps g k) {σ : List MO}
include H T
theorem c_begin : Fn g 2 "_law_begin" [.tx k [47], .tx k [46]] σ (.cell σ.length) (σ ++ [.dict (heldV k LS0)]) := by
  refine fn_at ["slash", "dot"] (H.defs 27 _ _ _ _ _ _ _ _ _ _ rfl (by decide)) (fun _ _ _ vs h => by obtain ⟨_, _, rfl⟩ := vlen2 h; rfl) ?_
  have hi : ∀ l : List (Str × V), (σ ++ [MO.dict l])[σ.length]? = some (MO.dict l) := fun l => by simp
  have hset : ∀ l l' : List (Str × V), (σ ++ [MO.dict l]).set σ.length (MO.dict l') = σ ++ [MO.dict l'] := fun l l' => by simp
  show Ex g _ 1 (_ :: _) _ σ _
  refine ex_step (ex1_assign (ev_dict (evps_cons (ev_str (l := kSlash) (by decide +kernel)) ev_name (evps_cons (ev_str (l := kDot) (by decide +kernel)) ev_name (evps_cons (ev_str (l := kFront) (by decide +kernel)) ev_int (evps_cons (ev_str (l := kHead) (by decide +kernel)) (ev_pre0 (σ₁ := []) T ev_name (by decide)) (evps_cons (ev_str (l := kGap) (by decide +kernel)) ev_int evps_nil))))) rfl rfl (by simp) (by decide) (by cases k <;> decide +kernel))) ?_
  refine ex_step (ex1_store (k := kStem) (ev_pre0 (σ₁ := []) T ev_name (by decide)) ev_name (ev_str (by decide +kernel)) (hi _) (by cases k <;> decide +kernel)) ?_
  rw [hset]
  refine ex_step (ex1_store (k := kEnding) (ev_pre0 (σ₁ := []) T ev_name (by decide)) ev_name (ev_str (by decide +kernel)) (hi _) (by cases k <;> decide +kernel)) ?_
  rw [hset]
  refine ex_step (ex1_store (k := kWord) ev_bool ev_name (ev_str (by decide +kernel)) (hi _) (by cases k <;> decide +kernel)) ?_
  rw [hset]
  refine ex_step (ex1_store (k := kPieces) (ev_list evl_nil) ev_name (ev_str (by decide +kernel)) (hi _) (by cases k <;> decide +kernel)) ?_
  rw [hset]
  refine ex_step (ex1_store (k := kUps) ev_int ev_name (ev_str (by decide +kernel)) (hi _) (by cases k <;> decide +kernel)) ?_
  rw [hset]
  refine ex_step (ex1_store (k := kNames) (ev_list evl_nil) ev_name (ev_str (by decide +kernel)) (hi _) (by cases k <;> decide +kernel)) ?_
  rw [hset]
  exact ex_ret ev_name ret_end
theorem c_passed (s : LS) (t : Oct) (i : Nat) (hi : i < σ.length) (ht : t.length ≤ 1000000) (hn : s.names.length ≤ 1000000) : Fn g 2 "_law_passed" [.cell i, .tx k t] (at' k σ i s) (.tup [.int ((pas s t).1 : Nat), txL k (pas s t).2]) (at' k σ i s) := by
  refine fn_at ["held", "tail"] (H.defs 28 _ _ _ _ _ _ _ _ _ _ rfl (by decide)) (fun _ _ _ vs h => by obtain ⟨_, _, rfl⟩ := vlen2 h; rfl) ?_
  have two : rep 2 [46] = [46, 46] := by decide
  refine ex_if (evb_or (evb_cmp ev_name (ev_pre0 (σ₁ := []) T ev_name (by omega)) op_eq_tx) fun _ => evb_cmp ev_name (rd hi ev_name (get_dot k s) (by decide +kernel)) op_eq_tx) (fun h => ?_) (fun h => ?_)
  · have hc : t = [] ∨ t = [46] := by simpa using h
    have e : pas s t = (s.ups, s.names) := by unfold pas; rw [if_pos hc]
    rw [e]
    exact ex_ret (ev_tuple (evl_cons (rd hi ev_name (get_ups k s) (by decide +kernel)) (evl_cons (rd hi ev_name (get_names k s) (by decide +kernel)) evl_nil))) ret_end
  have hc : ¬ (t = [] ∨ t = [46]) := by simpa using h
  refine ex_if (evb_cmp ev_name (ev_eq (ev_bin (rd hi ev_name (get_dot k s) (by decide +kernel)) ev_int (T.mul _ _ [46] 2 (by decide) (by decide) (by decide))) (by rw [two])) op_ne_tx) (fun h => ?_) (fun h => ?_)
  · have hd : t ≠ [46, 46] := by simpa using h
    have e : pas s t = (s.ups, s.names ++ [t]) := by unfold pas; rw [if_neg hc, if_pos hd]
    rw [e]
    exact ex_ret (ev_tuple (evl_cons (rd hi ev_name (get_ups k s) (by decide +kernel)) (evl_cons (ev_eq (ev_bin (rd hi ev_name (get_names k s) (by decide +kernel)) (ev_list (evl_cons ev_name evl_nil)) (op_add_list (.inl rfl) (.inl rfl) (by simp; omega))) (by unfold txL; rw [List.map_append]; rfl)) evl_nil))) ret_end
  have hd : ¬ t ≠ [46, 46] := by simpa using h
  have nil : (V.list []) = txL k [] := rfl
  refine ex_if (evb_cmp (rd hi ev_name (get_names k s) (by decide +kernel)) (ev_eq (ev_list evl_nil) nil) (op_ne (cm_txL k s.names []) (by decide))) (fun h => ?_) (fun h => ?_)
  · have hx : s.names ≠ [] := by simpa using h
    have e : pas s t = (s.ups, s.names.dropLast) := by unfold pas; rw [if_neg hc, if_neg hd, if_pos hx]
    rw [e]
    exact ex_ret (ev_tuple (evl_cons (rd hi ev_name (get_ups k s) (by decide +kernel)) (evl_cons (ev_eq (ev_slcL (rd hi ev_name (get_names k s) (by decide +kernel)) evp_none (evp_some ev_neg1) (by rw [List.length_map]; omega)) (by rw [psl_map, psl_butlast]; rfl)) evl_nil))) ret_end
  have hx : ¬ s.names ≠ [] := by simpa using h
  refine ex_if (evb_cmp (rd hi ev_name (get_front k s) (by decide +kernel)) ev_int op_gt_int) (fun h => ?_) (fun h => ?_)
  · have hf : 0 < s.front := by simpa using h
    have e : pas s t = (0, []) := by unfold pas; rw [if_neg hc, if_neg hd, if_neg hx, if_pos hf]
    rw [e]
    exact ex_ret (ev_tuple (evl_cons ev_int (evl_cons (ev_list evl_nil) evl_nil))) ret_end
  · have hf : ¬ 0 < s.front := by simpa using h
    have e : pas s t = (s.ups + 1, []) := by unfold pas; rw [if_neg hc, if_neg hd, if_neg hx, if_neg hf]
    rw [e]
    exact ex_ret (ev_tuple (evl_cons (ev_bin (rd hi ev_name (get_ups k s) (by decide +kernel)) ev_int op_add_int) (evl_cons (ev_list evl_nil) evl_nil))) ret_end
end
end Mine
end
section
open PySem PySem.W PyProof.Rows PySem.Calls PySem.SeqAt
set_option Elab.async false
set_option linter.unusedVariables false
set_option maxRecDepth 100000
namespace Mine
noncomputable def tailOf (s : LS) : Oct := s.stem ++ s.ending
noncomputable def dotless (t : Oct) : List Oct := if t = [46] then [] else [t]
/-- a slash is read, but for the last piece -/
noncomputable def slashM (s : LS) : LS :=
  if tailOf s ≠ [] then { s with ups := (pas s (tailOf s)).1, names := (pas s (tailOf s)).2, pieces := s.pieces ++ dotless (tailOf s), head := s.head ++ sl s.gap ++ tailOf s, gap := 1 }
  else if s.head = sl s.front then { s with front := s.front + 1, head := s.head ++ [47] }
  else { s with gap := s.gap + 1 }
noncomputable def slashS (s : LS) : LS := { slashM s with stem := [], ending := [], word := false }
/-- how much there is -/
structure Sz (s : LS) : Prop where
  head : s.head.length ≤ 100000
  gap : s.gap ≤ 100000
  front : s.front ≤ 100000
  stem : s.stem.length ≤ 100000
  ending : s.ending.length ≤ 100000
  pieces : s.pieces.length ≤ 100000
  names : s.names.length ≤ 100000
theorem dotless_outs (k : Kd) (t : Oct) : V.list (outs (fun _ => t != [46]) (fun _ => .tx k t) 1) = txL k (dotless t) := by
  unfold outs dotless txL
  by_cases h : t = [46]
  · subst h; rfl
  · have : (t != [46]) = true := by simpa using h
    simp [this, h]
theorem sl_rep (m : Nat) : rep m [47] = sl m := by rw [rep_one]; rfl
theorem sl_length (m : Nat) : (sl m).length = m := by unfold sl; simp
section
variable {g : Glo} (H : Has g pw) {k : Kd} (T : TxOps g k) {σ : List MO}
include H T
omit H in
theorem ev_mulSl {sc : Scope} {n : Nat} {ρ : Loc} {a b : Expr} {p : Pos} {m : Nat} {σ₁ : List MO} (h1 : Ev g sc n a ρ σ₁ (.tx k [47]) σ₁) (h2 : Ev g sc n b ρ σ₁ (.int (m : Nat)) σ₁) (hm : m ≤ 1000000) : Ev g sc n (.BinOp a .Mult b p) ρ σ₁ (.tx k (sl m)) σ₁ :=
  ev_eq (ev_bin h1 h2 (T.mul _ _ [47] m (by decide) (by decide) (by omega))) (by rw [sl_rep])
theorem c_slash (s : LS) (z : Sz s) (i : Nat) (hi : i < σ.length) : Fn g 5 "_law_read_slash" [.cell i] (at' k σ i s) .none (at' k σ i (slashS s)) := by
  obtain ⟨z1, z2, z3, z4, z5, z6, z7⟩ := z
  refine fn_at ["held"] (H.defs 29 _ _ _ _ _ _ _ _ _ _ rfl (by decide)) (fun _ _ _ vs h => by obtain ⟨_, rfl⟩ := vlen1 h; rfl) ?_
  have htl : (tailOf s).length ≤ 200000 := by unfold tailOf; rw [List.length_append]; omega
  refine ex_step (ex1_assign (x := .tx k (tailOf s)) (ev_bin (rd hi ev_name (get_stem k s) (by decide +kernel)) (rd hi ev_name (get_ending k s) (by decide +kernel)) (T.add _ _ _ _ (by omega)))) ?_
  refine ex_ifj (ρ' := [("tail", .tx k (tailOf s)), ("held", .cell i)]) (σ' := at' k σ i (slashM s)) (evb_cmp ev_name (ev_pre0 (σ₁ := []) T ev_name (by omega)) op_ne_tx) (fun h => ?_) (fun h => ?_) ?_
  · have hc : tailOf s ≠ [] := by simpa using h
    refine ex_step (ex1_untup (y := .tup [.int ((pas s (tailOf s)).1 : Nat), txL k (pas s (tailOf s)).2]) (ev_call 2 (evl_cons ev_name (evl_cons ev_name evl_nil)) (c_passed H T s (tailOf s) i hi (by omega) (by omega))) (asg_tup (asgl_cons asg_name (asgl_cons asg_name asgl_nil)))) ?_
    refine ex_step (wr (s' := { s with ups := (pas s (tailOf s)).1 }) hi ev_name ev_name (key := kUps) (hp := by rfl) (hx := by decide +kernel)) ?_
    refine ex_step (wr (s' := { s with ups := (pas s (tailOf s)).1, names := (pas s (tailOf s)).2 }) hi ev_name ev_name (key := kNames) (hp := by rfl) (hx := by decide +kernel)) ?_
    refine ex_step (wr (y := txL k (s.pieces ++ dotless (tailOf s))) (s' := { s with ups := (pas s (tailOf s)).1, names := (pas s (tailOf s)).2, pieces := s.pieces ++ dotless (tailOf s) }) hi (ev_eq (ev_bin (rd hi ev_name (get_pieces k _) (by decide +kernel)) (ev_lc (y := txL k (dotless (tailOf s))) (xs := [.tx k (tailOf s)]) (fun _ => tailOf s != [46]) (fun _ => .tx k (tailOf s)) (src_list (ev_list (evl_cons ev_name evl_nil)) (.inl rfl)) (Nat.le_of_ble_eq_true rfl) (fun j y hy => ?_) ?_) (op_add_list (.inl rfl) (.inl rfl) ?_)) ?_) ev_name (key := kPieces) (hp := by rfl) (hx := by decide +kernel)) ?_
    · have hy' : y = .tx k (tailOf s) := by
        cases j with
        | zero => exact (Option.some.inj hy).symm
        | succ j => simp at hy
      subst hy'
      exact ⟨_, asg_name, capt_sub, tst_one (evb_cmp ev_name (rd hi ev_name (get_dot k _) (by decide +kernel)) op_ne_tx), fun _ => ev_name⟩
    · exact (dotless_outs k (tailOf s)).symm
    · have : (dotless (tailOf s)).length ≤ 1 := by unfold dotless; split <;> simp
      simp; omega
    · unfold txL; rw [List.map_append]
    refine ex_step (wr (s' := { s with ups := (pas s (tailOf s)).1, names := (pas s (tailOf s)).2, pieces := s.pieces ++ dotless (tailOf s), head := s.head ++ sl s.gap ++ tailOf s }) hi (ev_bin (ev_bin (rd hi ev_name (get_head k _) (by decide +kernel)) (ev_mulSl T (rd hi ev_name (get_slash k _) (by decide +kernel)) (rd hi ev_name (get_gap k _) (by decide +kernel)) (by show s.gap ≤ _; omega)) (T.add _ _ _ _ (by rw [sl_length]; show s.head.length + s.gap ≤ _; omega))) ev_name (T.add _ _ _ _ (by rw [List.length_append, sl_length]; show s.head.length + s.gap + _ ≤ _; omega))) ev_name (key := kHead) (hp := by rfl) (hx := by decide +kernel)) ?_
    refine ex_step (wr (s' := slashM s) hi ev_int ev_name (key := kGap) (hp := by unfold slashM; rw [if_pos hc]; rfl) (hx := by decide +kernel)) ?_
    exact ex_nil ⟨_, rfl, sub_of ⟨rfl, rfl, trivial⟩⟩
  · have hc : ¬ tailOf s ≠ [] := by simpa using h
    refine ex_if (evb_cmp (rd hi ev_name (get_head k _) (by decide +kernel)) (ev_mulSl T (rd hi ev_name (get_slash k _) (by decide +kernel)) (rd hi ev_name (get_front k _) (by decide +kernel)) (by omega)) op_eq_tx) (fun h => ?_) (fun h => ?_)
    · have hd : s.head = sl s.front := by simpa using h
      refine ex_step (wr (y := .int ((s.front + 1 : Nat) : Int)) (s' := { s with front := s.front + 1 }) hi (ev_eq (ev_bin (rd hi ev_name (get_front k _) (by decide +kernel)) ev_int op_add_int) rfl) ev_name (key := kFront) (hp := by rfl) (hx := by decide +kernel)) ?_
      refine ex_step (wr (s' := slashM s) hi (ev_bin (rd hi ev_name (get_head k _) (by decide +kernel)) (rd hi ev_name (get_slash k _) (by decide +kernel)) (T.add _ _ _ _ (by show s.head.length + 1 ≤ _; omega))) ev_name (key := kHead) (hp := by unfold slashM; rw [if_neg hc, if_pos hd]; rfl) (hx := by decide +kernel)) ?_
      exact ex_nil ⟨_, rfl, sub_of ⟨rfl, rfl, trivial⟩⟩
    · have hd : ¬ s.head = sl s.front := by simpa using h
      refine ex_step (wr (y := .int ((s.gap + 1 : Nat) : Int)) (s' := slashM s) hi (ev_eq (ev_bin (rd hi ev_name (get_gap k _) (by decide +kernel)) ev_int op_add_int) rfl) ev_name (key := kGap) (hp := by unfold slashM; rw [if_neg hc, if_neg hd]; rfl) (hx := by decide +kernel)) ?_
      exact ex_nil ⟨_, rfl, sub_of ⟨rfl, rfl, trivial⟩⟩
  · refine ex_step (wr (s' := { slashM s with stem := [] }) hi (ev_pre0 (σ₁ := []) T ev_name (by omega)) ev_name (key := kStem) (hp := by rfl) (hx := by decide +kernel)) ?_
    refine ex_step (wr (s' := { slashM s with stem := [], ending := [] }) hi (ev_pre0 (σ₁ := []) T ev_name (by omega)) ev_name (key := kEnding) (hp := by rfl) (hx := by decide +kernel)) ?_
    refine ex_step (wr (s' := slashS s) hi ev_bool ev_name (key := kWord) (hp := by rfl) (hx := by decide +kernel)) ?_
    exact ex_nil nx_end
end
end Mine
end
section
open PySem PySem.W PyProof.Rows PySem.Calls PySem.SeqAt
set_option Elab.async false
set_option linter.unusedVariables false
set_option linter.unusedSectionVars false
set_option maxRecDepth 100000
namespace Mine
noncomputable def signS (s : LS) (c : UInt8) : LS :=
  if c = 47 then slashS s
  else if c = 46 ∧ s.word = true then { s with stem := s.stem ++ s.ending, ending := [c] }
  else if s.ending ≠ [] then { s with ending := s.ending ++ [c] }
  else { s with stem := s.stem ++ [c], word := s.word || (c != 46) }
/-- what the law tells -/
structure TD where
  path : Oct
  root : Oct
  head : Oct
  tail : Oct
  body : Oct
  ending : Oct
  plain : Oct
  pieces : List Oct
noncomputable def toldV (k : Kd) (t : TD) : List (Str × V) := [(S8 kPath, .tx k t.path), (S8 kRoot, .tx k t.root), (S8 kHead, .tx k t.head), (S8 kTail, .tx k t.tail), (S8 kBody, .tx k t.body), (S8 kEnding, .tx k t.ending), (S8 kPlain, .tx k t.plain), (S8 kPieces, txL k t.pieces)]
noncomputable def rawOf (s : LS) : Oct := rootOf s.front ++ jn [47] (List.replicate (pas s (tailOf s)).1 [46, 46] ++ (pas s (tailOf s)).2)
noncomputable def counts (t : Oct) : List Oct := if t = [] ∨ t = [46] then [] else [t]
noncomputable def toldOf (s : LS) : TD := ⟨s.head ++ sl s.gap ++ tailOf s, rootOf s.front, s.head, tailOf s, s.head ++ sl s.gap ++ s.stem, s.ending, if rawOf s = [] then [46] else rawOf s, s.pieces ++ counts (tailOf s)⟩
noncomputable def rtN (m : Nat) : Nat := ([0, 1, 2, 1] : List Nat).getD (min m 3) 0
theorem rtN_le (m : Nat) : rtN m ≤ 2 := by
  unfold rtN
  match m with
  | 0 | 1 | 2 => decide
  | m + 3 => rw [show min (m + 3) 3 = 3 by omega]; decide
theorem rtN_sl (m : Nat) : sl (rtN m) = rootOf m := by
  unfold rtN rootOf
  match m with
  | 0 | 1 | 2 => decide
  | m + 3 => rw [show min (m + 3) 3 = 3 by omega, if_neg (by omega), if_neg (by omega)]; decide
theorem rtN_at (m : Nat) : ([V.int 0, .int 1, .int 2, .int 1] : List V)[(min (m : Int) 3).toNat]? = some (.int (rtN m : Nat)) := by
  unfold rtN
  match m with
  | 0 | 1 | 2 => rfl
  | m + 3 => rw [show min ((m + 3 : Nat) : Int) 3 = 3 by omega, show min (m + 3) 3 = 3 by omega]; rfl
theorem counts_outs (k : Kd) (t : Oct) : V.list (outs (fun _ => t != [] && t != [46]) (fun _ => .tx k t) 1) = txL k (counts t) := by
  unfold outs counts txL
  by_cases h : t = [] ∨ t = [46]
  · rw [if_pos h]
    have : (t != [] && t != [46]) = false := by rcases h with rfl | rfl <;> decide
    simp only [this]; rfl
  · rw [if_neg h]
    have h' : (t != [] && t != [46]) = true := by
      rw [not_or] at h
      simp [h.1, h.2]
    simp only [h']; rfl
section
variable {k : Kd} {σ : List MO} {i : Nat} {s s' : LS}
theorem at_app (hi : i < σ.length) (d : MO) : at' k σ i s ++ [d] = at' k (σ ++ [d]) i s := by
  unfold at'; rw [List.set_append_left _ _ hi]
theorem at_told (hi : i < σ.length) (l : List (Str × V)) : (at' k (σ ++ [.dict l]) i s)[σ.length]? = some (.dict l) := by
  rw [← at_app hi, List.getElem?_append_right (by rw [at_len]; exact Nat.le_refl _), at_len]; simp
theorem at_tset (hi : i < σ.length) (l l' : List (Str × V)) : (at' k (σ ++ [.dict l]) i s).set σ.length (.dict l') = at' k (σ ++ [.dict l']) i s := by
  rw [← at_app hi, ← at_app hi, List.set_append_right _ _ (by rw [at_len]; exact Nat.le_refl _), at_len]; simp
end
section
variable {g : Glo} (H : Has g pw) {k : Kd} (T : TxOps g k) {σ : List MO}
include H T
theorem c_sign (s : LS) (z : Sz s) (c : UInt8) (i : Nat) (hi : i < σ.length) : Fn g 6 "_law_read_sign" [.cell i, .tx k [c]] (at' k σ i s) .none (at' k σ i (signS s c)) := by
  refine fn_at ["held", "sign"] (H.defs 30 _ _ _ _ _ _ _ _ _ _ rfl (by decide)) (fun _ _ _ vs h => by obtain ⟨_, _, rfl⟩ := vlen2 h; rfl) ?_
  have z4 := z.stem
  have z5 := z.ending
  refine ex_if (evb_cmp ev_name (rd hi ev_name (get_slash k s) (by decide +kernel)) op_eq_tx) (fun h => ?_) (fun h => ?_)
  · have hc : c = 47 := by simpa using h
    have e : signS s c = slashS s := by unfold signS; rw [if_pos hc]
    rw [e]
    exact ex_step (ex1_expr (ev_call 5 (evl_cons ev_name evl_nil) (c_slash H T s z i hi))) (ex_nil nx_end)
  have hc : ¬ c = 47 := by simpa using h
  refine ex_if (evb_and (evb_cmp ev_name (rd hi ev_name (get_dot k s) (by decide +kernel)) op_eq_tx) fun _ => evb_val rfl (rd hi ev_name (get_word k s) (by decide +kernel)) tr_bool) (fun h => ?_) (fun h => ?_)
  · have hd : c = 46 ∧ s.word = true := by simpa using h
    have e : signS s c = { s with stem := s.stem ++ s.ending, ending := [c] } := by unfold signS; rw [if_neg hc, if_pos hd]
    rw [e]
    refine ex_step (wr (s' := { s with stem := s.stem ++ s.ending }) hi (ev_bin (rd hi ev_name (get_stem k s) (by decide +kernel)) (rd hi ev_name (get_ending k s) (by decide +kernel)) (T.add _ _ _ _ (by omega))) ev_name (key := kStem) (hp := by rfl) (hx := by decide +kernel)) ?_
    exact ex_step (wr (s' := { s with stem := s.stem ++ s.ending, ending := [c] }) hi ev_name ev_name (key := kEnding) (hp := by rfl) (hx := by decide +kernel)) (ex_nil nx_end)
  have hd : ¬ (c = 46 ∧ s.word = true) := by simpa using h
  refine ex_if (evb_cmp (rd hi ev_name (get_ending k s) (by decide +kernel)) (ev_pre0 (σ₁ := []) T ev_name (by simp)) op_ne_tx) (fun h => ?_) (fun h => ?_)
  · have he : s.ending ≠ [] := by simpa using h
    have e : signS s c = { s with ending := s.ending ++ [c] } := by unfold signS; rw [if_neg hc, if_neg hd, if_pos he]
    rw [e]
    exact ex_step (wr (s' := { s with ending := s.ending ++ [c] }) hi (ev_bin (rd hi ev_name (get_ending k s) (by decide +kernel)) ev_name (T.add _ _ _ _ (by simp; omega))) ev_name (key := kEnding) (hp := by rfl) (hx := by decide +kernel)) (ex_nil nx_end)
  · have he : ¬ s.ending ≠ [] := by simpa using h
    have e : signS s c = { s with stem := s.stem ++ [c], word := s.word || (c != 46) } := by unfold signS; rw [if_neg hc, if_neg hd, if_neg he]
    rw [e]
    refine ex_step (wr (s' := { s with stem := s.stem ++ [c] }) hi (ev_bin (rd hi ev_name (get_stem k s) (by decide +kernel)) ev_name (T.add _ _ _ _ (by simp; omega))) ev_name (key := kStem) (hp := by rfl) (hx := by decide +kernel)) ?_
    refine ex_step (wr (y := .bool (s.word || (c != 46))) (s' := { s with stem := s.stem ++ [c], word := s.word || (c != 46) }) hi (ev_eq (ev_or (rd hi ev_name (get_word k _) (by decide +kernel)) tr_bool fun _ => ev_cmp ev_name (rd hi ev_name (get_dot k _) (by decide +kernel)) op_ne_tx) ?_) ev_name (key := kWord) (hp := by rfl) (hx := by decide +kernel)) (ex_nil nx_end)
    show (if s.word = true then V.bool s.word else V.bool ([c] != [46])) = V.bool (s.word || (c != 46))
    have e2 : ([c] != [46]) = (c != 46) := by rw [Bool.eq_iff_iff, bne_iff_ne, bne_iff_ne]; exact not_congr ⟨fun h => (List.cons.inj h).1, fun h => by rw [h]⟩
    cases hw : s.word with
    | true => rfl
    | false => rw [e2]; rfl
end
end Mine
end
section
open PySem PySem.W PyProof.Rows PySem.Calls PySem.SeqAt
set_option Elab.async false
set_option linter.unusedVariables false
set_option linter.unusedSectionVars false
set_option maxRecDepth 100000
namespace Mine
theorem toldV_fl (k : Kd) (t : TD) (m i : Nat) (x : Str × V) (h : (toldV k t)[i]? = some x) : Fl m x.2 := by
  have hl : Fl m (txL k t.pieces) := .list _ fun j y hy => by
    rw [List.getElem?_map] at hy
    obtain ⟨q, _, rfl⟩ := Option.map_eq_some_iff.mp hy
    exact .tx _ _
  have := List.mem_of_getElem? h
  unfold toldV at this
  simp only [List.mem_cons, List.not_mem_nil, or_false] at this
  rcases this with rfl | rfl | rfl | rfl | rfl | rfl | rfl | rfl <;> first | exact .tx _ _ | exact hl
/-- bounds for what is told -/
structure SzT (s : LS) : Prop extends Sz s where
  ups : s.ups ≤ 10000
  tot : tot s.names ≤ 100000
theorem pas_ups (s : LS) (t : Oct) : (pas s t).1 ≤ s.ups + 1 := by
  unfold pas
  split
  · exact Nat.le_succ _
  · split
    · exact Nat.le_succ _
    · split
      · exact Nat.le_succ _
      · split
        · exact Nat.zero_le _
        · exact Nat.le_refl _
theorem tot_append (a b : List Oct) : tot (a ++ b) = tot a + tot b := by unfold tot; simp
theorem tot_dropLast (a : List Oct) : tot a.dropLast ≤ tot a := by
  rw [List.dropLast_eq_take]; exact tot_take a _
theorem pas_tot (s : LS) (t : Oct) : tot (pas s t).2 ≤ tot s.names + t.length + 1 := by
  have h0 : tot ([] : List Oct) = 0 := rfl
  unfold pas
  split
  · show tot s.names ≤ _; omega
  · split
    · show tot (s.names ++ [t]) ≤ _
      rw [tot_append, tot_cons, h0]; omega
    · split
      · have := tot_dropLast s.names
        show tot s.names.dropLast ≤ _; omega
      · split <;> (show tot [] ≤ _; omega)
theorem tot_rep (m : Nat) : tot (List.replicate m ([46, 46] : Oct)) = 3 * m := by
  induction m with
  | zero => rfl
  | succ m ih => rw [List.replicate_succ, tot_cons, ih]; simp; omega
theorem plain_eq (k : Kd) (s : LS) : (if (rawOf s == []) = true then V.tx k [46] else V.tx k (rawOf s)) = V.tx k (toldOf s).plain := by
  show _ = V.tx k (if rawOf s = [] then [46] else rawOf s)
  by_cases h : rawOf s = []
  · rw [if_pos h, if_pos (by simpa using h)]
  · rw [if_neg h, if_neg (by simpa using h)]
section
variable {g : Glo} (H : Has g pw) {k : Kd} (T : TxOps g k) {σ : List MO}
include H T
theorem c_told (s : LS) (z : SzT s) (i : Nat) (hi : i < σ.length) : Fn g 4 "_law_told" [.cell i] (at' k σ i s) (.fdict (toldV k (toldOf s))) (at' k σ i s) := by
  obtain ⟨⟨z1, z2, z3, z4, z5, z6, z7⟩, z8, z9⟩ := z
  refine fn_freeze (j := []) ?_ (toldV_fl k (toldOf s))
  rw [at_len, at_app hi]
  refine fn_at ["held"] (H.defs 31 _ _ _ _ _ _ _ _ _ _ rfl (by decide)) (fun _ _ _ vs h => by obtain ⟨_, rfl⟩ := vlen1 h; rfl) ?_
  have htl : (tailOf s).length ≤ 200000 := by unfold tailOf; rw [List.length_append]; omega
  have hsl := sl_length s.gap
  refine ex_step (ex1_assign (rd hi ev_name (get_slash k s) (by decide +kernel))) ?_
  refine ex_step (ex1_assign (x := .tx k (tailOf s)) (ev_bin (rd hi ev_name (get_stem k s) (by decide +kernel)) (rd hi ev_name (get_ending k s) (by decide +kernel)) (T.add _ _ _ _ (by omega)))) ?_
  refine ex_step (ex1_assign (x := .tx k (s.head ++ sl s.gap)) (ev_bin (rd hi ev_name (get_head k s) (by decide +kernel)) (ev_mulSl T ev_name (rd hi ev_name (get_gap k s) (by decide +kernel)) (by omega)) (T.add _ _ _ _ (by rw [hsl]; omega)))) ?_
  refine ex_step (ex1_assign (x := .tx k (rootOf s.front)) (ev_eq (ev_mulSl (m := rtN s.front) T ev_name (ev_sub (ev_list (evl_cons ev_int (evl_cons ev_int (evl_cons ev_int (evl_cons ev_int evl_nil))))) (ev_blt (evl_cons (rd hi ev_name (get_front k s) (by decide +kernel)) (evl_cons ev_int evl_nil)) op_min_two) (.lst (.inl rfl)) (op_item_list (.inl rfl) (by omega) (by omega) (rtN_at s.front))) (by have := rtN_le s.front; omega)) (by rw [rtN_sl]))) ?_
  refine ex_step (ex1_untup (y := .tup [.int ((pas s (tailOf s)).1 : Nat), txL k (pas s (tailOf s)).2]) (ev_call 2 (evl_cons ev_name (evl_cons ev_name evl_nil)) (c_passed H T s (tailOf s) i hi (by omega) (by omega))) (asg_tup (asgl_cons asg_name (asgl_cons asg_name asgl_nil)))) ?_
  have hu := pas_ups s (tailOf s)
  have ht := pas_tot s (tailOf s)
  have hnl := tot_length (pas s (tailOf s)).2
  have hjt : tot (List.replicate (pas s (tailOf s)).1 [46, 46] ++ (pas s (tailOf s)).2) ≤ 400000 := by rw [tot_append, tot_rep]; omega
  have hjl := jn_len (List.replicate (pas s (tailOf s)).1 [46, 46] ++ (pas s (tailOf s)).2)
  have hrl : (rootOf s.front).length ≤ 2 := by rw [← rtN_sl, sl_length]; exact rtN_le _
  refine ex_step (ex1_assign (x := .tx k (rawOf s)) (ev_bin ev_name (ev_meth ev_name (evl_cons (ev_eq (y := txL k (List.replicate (pas s (tailOf s)).1 [46, 46] ++ (pas s (tailOf s)).2)) (ev_bin (ev_mulOne (m := (pas s (tailOf s)).1) (x := .tx k [46, 46]) rfl (ev_eq (ev_bin (rd hi ev_name (get_dot k s) (by decide +kernel)) ev_int (T.mul _ _ [46] 2 (by decide) (by decide) (by decide))) (by rw [show rep 2 [46] = ([46, 46] : Oct) by decide])) ev_name (by omega)) ev_name (op_add_list (.inl rfl) (.inl rfl) (by simp; omega))) (by unfold txL; rw [List.map_append, List.map_replicate])) evl_nil) (T.join _ _ [47] _ _ (.inl rfl) (Nat.le_trans (show tot _ ≤ 400000 from hjt) (by decide)))) (T.add _ _ _ _ (by omega)))) ?_
  have hd : ∀ d, i < (σ ++ [d]).length := fun d => by rw [List.length_append]; omega
  have hal : (s.head ++ sl s.gap).length ≤ 200000 := by rw [List.length_append, hsl]; omega
  let t := toldOf s
  refine ex_step (ex1_assign (ev_dict (xs := [(S8 kPath, .tx k t.path), (S8 kRoot, .tx k t.root), (S8 kHead, .tx k t.head), (S8 kTail, .tx k t.tail)]) (by
    rw [at_app hi]
    exact evps_cons (ev_str (l := kPath) (by decide +kernel)) (ev_bin ev_name ev_name (T.add _ _ _ _ (by omega))) (evps_cons (ev_str (l := kRoot) (by decide +kernel)) ev_name (evps_cons (ev_str (l := kHead) (by decide +kernel)) (rd (hd _) ev_name (get_head k s) (by decide +kernel)) (evps_cons (ev_str (l := kTail) (by decide +kernel)) ev_name evps_nil)))) rfl rfl (by simp) (by decide) (by show ([S8 kPath, S8 kRoot, S8 kHead, S8 kTail] : List Str).Nodup; decide +kernel))) ?_
  rw [at_len, at_app hi]
  refine ex_step (ex1_store (k := kBody) (x := .tx k t.body) (ev_bin ev_name (rd (hd _) ev_name (get_stem k s) (by decide +kernel)) (T.add _ _ _ _ (by omega))) ev_name (ev_str (by decide +kernel)) (at_told hi _) (show 4 ≤ 16777216 by decide)) ?_
  rw [at_tset hi]
  refine ex_step (ex1_store (k := kEnding) (x := .tx k t.ending) (rd (hd _) ev_name (get_ending k s) (by decide +kernel)) ev_name (ev_str (by decide +kernel)) (at_told hi _) (show 5 ≤ 16777216 by decide)) ?_
  rw [at_tset hi]
  have hrw : (rawOf s).length ≤ 500000 := by unfold rawOf; rw [List.length_append]; omega
  refine ex_step (ex1_store (k := kPlain) (x := .tx k t.plain) (ev_eq (ev_if (c := rawOf s == []) (evb_cmp ev_name (ev_pre0 (σ₁ := []) T ev_name (by decide)) op_eq_tx) (fun _ => rd (hd _) ev_name (get_dot k s) (by decide +kernel)) (fun _ => ev_name)) (plain_eq k s)) ev_name (ev_str (by decide +kernel)) (at_told hi _) (show 6 ≤ 16777216 by decide)) ?_
  rw [at_tset hi]
  refine ex_step (ex1_store (k := kPieces) (x := txL k t.pieces) (ev_eq (ev_bin (rd (hd _) ev_name (get_pieces k s) (by decide +kernel)) (ev_lc (y := txL k (counts (tailOf s))) (xs := [.tx k (tailOf s)]) (fun _ => tailOf s != [] && tailOf s != [46]) (fun _ => .tx k (tailOf s)) (src_list (ev_list (evl_cons ev_name evl_nil)) (.inl rfl)) (Nat.le_of_ble_eq_true rfl) (fun j y hy => ?_) ?_) (op_add_list (.inl rfl) (.inl rfl) ?_)) ?_) ev_name (ev_str (by decide +kernel)) (at_told hi _) (show 7 ≤ 16777216 by decide)) ?_
  · have hy' : y = .tx k (tailOf s) := by
      cases j with
      | zero => exact (Option.some.inj hy).symm
      | succ j => simp at hy
    subst hy'
    exact ⟨_, asg_name, capt_sub, tst_one (evb_and (evb_cmp ev_name (ev_pre0 (σ₁ := []) T ev_name (by decide)) op_ne_tx) fun _ => evb_cmp ev_name (rd (hd _) ev_name (get_dot k s) (by decide +kernel)) op_ne_tx), fun _ => ev_name⟩
  · exact (counts_outs k (tailOf s)).symm
  · have : (counts (tailOf s)).length ≤ 1 := by unfold counts; split <;> simp
    simp; omega
  · show V.list _ = txL k (s.pieces ++ counts (tailOf s))
    unfold txL; rw [List.map_append]
  rw [at_tset hi]
  exact ex_ret ev_name ret_end
end
end Mine
end
section
open PySem PySem.W PyProof.Rows PySem.Calls PySem.SeqAt
set_option Elab.async false
set_option linter.unusedVariables false
set_option linter.unusedSectionVars false
set_option maxRecDepth 100000
namespace Mine
/-- what some rows begin with -/
noncomputable def comR : List Oct → List (List Oct) → List Oct
  | [], _ => []
  | a :: r0, rs => if rs.all (fun r => r.head? == some a) then a :: comR r0 (rs.map List.tail) else []
theorem comR_lt : ∀ (r0 : List Oct) (rs : List (List Oct)) (i : Nat), i < (comR r0 rs).length → ∃ a, r0[i]? = some a ∧ ∀ r ∈ rs, r[i]? = some a
  | [], _, i, h => absurd h (Nat.not_lt_zero _)
  | a :: r0, rs, i, h => by
    unfold comR at h
    split at h
    · rename_i hall
      cases i with
      | zero =>
        refine ⟨a, rfl, fun r hr => ?_⟩
        have := List.all_eq_true.mp hall r hr
        rw [← List.head?_eq_getElem?]; simpa using this
      | succ i =>
        obtain ⟨b, h1, h2⟩ := comR_lt r0 (rs.map List.tail) i (by simpa using h)
        refine ⟨b, by simpa using h1, fun r hr => ?_⟩
        have := h2 r.tail (List.mem_map.mpr ⟨r, hr, rfl⟩)
        rw [List.getElem?_tail] at this
        exact this
    · exact absurd h (Nat.not_lt_zero _)
theorem comR_end : ∀ (r0 : List Oct) (rs : List (List Oct)), (∃ r ∈ r0 :: rs, r.length ≤ (comR r0 rs).length) ∨ ∃ r ∈ rs, r[(comR r0 rs).length]? ≠ r0[(comR r0 rs).length]?
  | [], rs => .inl ⟨[], List.mem_cons_self, Nat.zero_le _⟩
  | a :: r0, rs => by
    unfold comR
    split
    · rename_i hall
      rcases comR_end r0 (rs.map List.tail) with ⟨r, hr, hl⟩ | ⟨r, hr, hl⟩
      · rcases List.mem_cons.mp hr with rfl | hr
        · exact .inl ⟨_, List.mem_cons_self, by simpa using hl⟩
        · obtain ⟨r', hr', rfl⟩ := List.mem_map.mp hr
          refine .inl ⟨r', List.mem_cons_of_mem _ hr', ?_⟩
          rw [List.length_tail] at hl
          simp; omega
      · obtain ⟨r', hr', rfl⟩ := List.mem_map.mp hr
        refine .inr ⟨r', hr', ?_⟩
        rw [List.getElem?_tail] at hl
        simpa using hl
    · rename_i hall
      have : ∃ r ∈ rs, ¬ (r.head? == some a) = true := by
        rw [List.all_eq_true] at hall
        exact Classical.byContradiction fun hn => hall fun r hr => Classical.byContradiction fun hh => hn ⟨r, hr, hh⟩
      obtain ⟨r, hr, hh⟩ := this
      refine .inr ⟨r, hr, fun e => hh ?_⟩
      rw [List.head?_eq_getElem?]
      rw [show ([] : List Oct).length = 0 from rfl] at e
      rw [e]; simp
theorem comR_take : ∀ (r0 : List Oct) (rs : List (List Oct)), r0.take (comR r0 rs).length = comR r0 rs
  | [], rs => rfl
  | a :: r0, rs => by
    unfold comR
    split
    · rw [List.length_cons, List.take_succ_cons, comR_take r0]
    · rfl
theorem comR_tot (r0 : List Oct) (rs : List (List Oct)) : tot (comR r0 rs) ≤ tot r0 := by rw [← comR_take]; exact tot_take _ _
theorem exists_min : ∀ (x : Nat) (xs : List Nat), ∃ m ∈ x :: xs, ∀ y ∈ x :: xs, m ≤ y
  | x, [] => ⟨x, List.mem_cons_self, fun y hy => by rw [List.mem_singleton.mp hy]; exact Nat.le_refl _⟩
  | x, y :: xs => by
    obtain ⟨m, h1, h2⟩ := exists_min y xs
    rcases Nat.le_total x m with h | h
    · exact ⟨x, List.mem_cons_self, fun z hz => (List.mem_cons.mp hz).elim (fun e => e ▸ Nat.le_refl _) fun hz => Nat.le_trans h (h2 z hz)⟩
    · exact ⟨m, List.mem_cons_of_mem _ h1, fun z hz => (List.mem_cons.mp hz).elim (fun e => e ▸ h) fun hz => h2 z hz⟩
theorem cm_nil (X : List V) : Cm 1 (.list X) (.list []) X.isEmpty := by
  cases X with
  | nil => exact Cm.list 0 [] [] (fun _ => true) rfl fun j x y h => by simp at h
  | cons x X => exact Cm.lens 0 _ _ (by simp)
end Mine
end
section
open PySem PySem.W PyProof.Rows PySem.Calls PySem.SeqAt
set_option Elab.async false
set_option linter.unusedVariables false
set_option linter.unusedSectionVars false
set_option maxRecDepth 100000
namespace Mine
noncomputable def rowB (B : List Oct) (t : TD) : List Oct := t.pieces ++ B
noncomputable def mixed (ts : List TD) : Bool := (ts.map fun t => t.root != []).contains true && (ts.map fun t => t.root != []).contains false
/-- what the law says of common parts -/
noncomputable def lcom (t : TD) (ts : List TD) (B : List Oct) : Option Oct := if mixed (t :: ts) then none else some ((if t.root = [] then [] else [47]) ++ jn [47] (comR (rowB B t) (ts.map (rowB B))))
noncomputable def optV (k : Kd) : Option Oct → V
  | none => .none
  | some t => .tx k t
noncomputable def tdV (k : Kd) (t : TD) : V := .fdict (toldV k t)
noncomputable def tdsV (k : Kd) (ts : List TD) : V := .list (ts.map (tdV k))
noncomputable def td0 : TD := ⟨[], [], [], [], [], [], [], []⟩
section
variable {g : Glo} {sc : Scope} {n : Nat} {ρ : Loc} {σ : List MO} {k : Kd}
theorem rdT {e : Expr} {x : Str} {key : Oct} {y : V} {t : TD} {kk : Nat} {p p' : Pos} (h1 : Ev g sc n e ρ σ (tdV k t) σ) (hg : (toldV k t).lookup (S8 key) = some y) (hx : x = S8 key) : Ev g sc n (.Subscript e (.Constant (.str x) kk p) p') ρ σ y σ :=
  ev_sub h1 (ev_str hx) (.dict (.inl rfl)) (op_item_dict (.inl rfl) hg)
end
section
variable {g : Glo} {sc : Scope} {n : Nat} {ρ : Loc} {σ : List MO} {Φ : Out → Prop} {rest : List Stmt}
/-- a loop whose test is known at each turn -/
theorem ex_while2 {test : Expr} {body : List Stmt} {pos : Pos} (J : Nat → Loc) (S : Nat → List MO) (ok : Nat → Prop) (N : Nat) (hσ : σ = S 0) (h0 : Sub (J 0) ρ) (ok0 : ok 0)
    (htest : ∀ i, i ≤ N → ok i → EvB g sc n test (J i) (S i) (decide (i < N)) (S i)) (hturn : ∀ i, i < N → ok i → Ex g sc n body (J i) (S i) (Lp (J (i + 1)) (S (i + 1)) (ok (i + 1)) (fun r s => Ex g sc n rest r s Φ) Φ))
    (hend : ok N → Ex g sc n rest (J N) (S N) Φ) : Ex g sc n (.While test body [] pos :: rest) ρ σ Φ :=
  ex_while J S ok N hσ h0 ok0 (fun i hi h => ⟨by have := htest i (Nat.le_of_lt hi) h; rwa [decide_eq_true hi] at this, hturn i hi h⟩) fun h => ⟨by have := htest N (Nat.le_refl _) h; rwa [decide_eq_false (Nat.lt_irrefl N)] at this, hend h⟩
end
section
variable {g : Glo} (H : Has g pw) {k : Kd} (T : TxOps g k) {σ : List MO}
include H T
theorem c_lcommon (t : TD) (ts : List TD) (B : List Oct) (hl : ts.length ≤ 1000) (ht : ∀ x ∈ t :: ts, tot (rowB B x) ≤ 1000000) (hp : ∀ x ∈ t :: ts, x.root.length ≤ 1000) :
    Fn g 2 "_law_common" [tdsV k (t :: ts), .tx k [47], lsV k B] σ (optV k (lcom t ts B)) σ := by
  refine fn_at ["stops", "slash", "behind"] (H.defs 32 _ _ _ _ _ _ _ _ _ _ rfl (by decide)) (fun _ _ _ vs h => by obtain ⟨_, _, _, rfl⟩ := vlen3 h; rfl) ?_
  refine ex_step (ex1_lc (xs := (t :: ts).map (tdV k)) (y := .list (((t :: ts).map fun t => t.root != []).map .bool)) (fun _ => true) (fun i => .bool (((t :: ts).getD i td0).root != [])) (src_list ev_name (.inl rfl)) (by simp; omega) (fun i y hy => ?_) ?_) ?_
  · rw [List.getElem?_map] at hy
    obtain ⟨q, hq, rfl⟩ := Option.map_eq_some_iff.mp hy
    have e : (t :: ts).getD i td0 = q := by rw [List.getD_eq_getElem?_getD, hq]; rfl
    rw [e]
    exact ⟨_, asg_name, capt_sub, tst_nil, fun _ => ev_cmp (rdT ev_name (key := kRoot) (y := .tx k q.root) rfl (by decide +kernel)) (ev_pre0 (σ₁ := []) T ev_name (by decide)) op_ne_tx⟩
  · rw [outs_map (fun q : TD => V.bool (q.root != [])) td0 (t :: ts) (by simp)]
    rw [List.map_map]; rfl
  refine ex_if (b := mixed (t :: ts)) (evb_and (evb_cmp ev_bool ev_name (op_in_bools (.inl rfl))) fun _ => evb_cmp ev_bool ev_name (op_in_bools (.inl rfl))) (fun h => ?_) (fun h => ?_)
  · have e : lcom t ts B = none := by unfold lcom; rw [if_pos h]
    rw [e]
    exact ex_ret ev_none ret_end
  have e : lcom t ts B = some ((if t.root = [] then [] else [47]) ++ jn [47] (comR (rowB B t) (ts.map (rowB B)))) := by unfold lcom; rw [if_neg (by rw [h]; decide)]
  rw [e]
  refine ex_step (ex1_lc (xs := (t :: ts).map (tdV k)) (y := lssV k ((t :: ts).map (rowB B))) (fun _ => true) (fun i => lsV k (rowB B ((t :: ts).getD i td0))) (src_list ev_name (.inl rfl)) (by simp; omega) (fun i y hy => ?_) ?_) ?_
  · rw [List.getElem?_map] at hy
    obtain ⟨q, hq, rfl⟩ := Option.map_eq_some_iff.mp hy
    have e : (t :: ts).getD i td0 = q := by rw [List.getD_eq_getElem?_getD, hq]; rfl
    have hq2 := ht q (List.mem_of_getElem? hq)
    have hq3 := tot_length (rowB B q)
    rw [e]
    refine ⟨_, asg_name, capt_sub, tst_nil, fun _ => ev_eq (ev_bin (rdT ev_name (key := kPieces) (y := txL k q.pieces) rfl (by decide +kernel)) ev_name (op_add_list (.inl rfl) (.inl rfl) ?_)) ?_⟩
    · unfold rowB at hq3 hq2
      rw [List.length_append] at hq3
      simp; omega
    · unfold lsV rowB; rw [List.map_append]
  · rw [outs_map (fun q : TD => lsV k (rowB B q)) td0 (t :: ts) (by simp)]
    unfold lssV; rw [List.map_map]; rfl
  refine ex_step (ex1_assign ev_int) ?_
  have hrows : ∀ r ∈ rowB B t :: ts.map (rowB B), r.length ≤ 1000000 := fun r hr => by
    have : r ∈ (t :: ts).map (rowB B) := hr
    obtain ⟨q, hq, rfl⟩ := List.mem_map.mp this
    exact Nat.le_trans (tot_length _) (ht q hq)
  rw [show lssV k ((t :: ts).map (rowB B)) = lssV k (rowB B t :: ts.map (rowB B)) from rfl]
  have hRl : (ts.map (rowB B)).length ≤ 1000 := by rw [List.length_map]; exact hl
  have hct : tot (comR (rowB B t) (ts.map (rowB B))) ≤ 1000000 := Nat.le_trans (comR_tot _ _) (ht t List.mem_cons_self)
  generalize hr0 : rowB B t = r0 at hrows hct ⊢
  generalize ts.map (rowB B) = rs at hrows hct hRl ⊢
  have hlt := comR_lt r0 rs
  have hend := comR_end r0 rs
  have htk := comR_take r0 rs
  generalize comR r0 rs = K at hlt hend htk hct ⊢
  obtain ⟨m, hm, hle⟩ := exists_min r0.length (rs.map List.length)
  have hmm : ∀ r ∈ r0 :: rs, m ≤ r.length := fun r hr => hle _ (by
    rcases List.mem_cons.mp hr with rfl | hr
    · exact List.mem_cons_self
    · exact List.mem_cons_of_mem _ (List.mem_map.mpr ⟨r, hr, rfl⟩))
  have hmi : (m : Int) ∈ (r0 :: rs).map fun r => (r.length : Int) := by
    rcases List.mem_cons.mp hm with e | hm
    · rw [e]; exact List.mem_map.mpr ⟨r0, List.mem_cons_self, rfl⟩
    · obtain ⟨r, hr, rfl⟩ := List.mem_map.mp hm
      exact List.mem_map.mpr ⟨r, List.mem_cons_of_mem _ hr, rfl⟩
  have hml : ∀ x ∈ (r0 :: rs).map fun r => (r.length : Int), (m : Int) ≤ x := fun x hx => by
    obtain ⟨r, hr, rfl⟩ := List.mem_map.mp hx
    have := hmm r hr; omega
  have hKl := tot_length K
  refine ex_while2 (fun i => [("k", .int (i : Nat)), ("rows", lssV k (r0 :: rs)), ("rooted", .list (((t :: ts).map fun t => t.root != []).map .bool)), ("slash", .tx k [47])]) (fun _ => σ) (fun i => i ≤ K.length) K.length rfl (sub_of ⟨rfl, rfl, rfl, rfl, trivial⟩) (Nat.zero_le _) (fun i hi hok => ?_) (fun i hi hok => ?_) (fun hok => ?_)
  · refine evb_eq (evb_and (evb_cmp ev_name (ev_blt (evl_cons (ev_lc (xs := (r0 :: rs).map (lsV k)) (y := .list (((r0 :: rs).map fun r => (r.length : Int)).map .int)) (fun _ => true) (fun j => .int (((r0 :: rs).getD j []).length : Nat)) (src_list ev_name (.inl rfl)) (by simp; omega) (fun j y hy => ?_) ?_) evl_nil) (op_min_ints hmi hml)) op_lt_int) fun hb => evb_cmp (ev_lc (xs := (r0 :: rs).map (lsV k)) (y := .list (((r0 :: rs).filter fun r => r[i]? != r0[i]?).map (lsV k))) (fun j => ((r0 :: rs).getD j [])[i]? != r0[i]?) (fun j => lsV k ((r0 :: rs).getD j [])) (src_list ev_name (.inl rfl)) (by simp; omega) (fun j y hy => ?_) ?_) (ev_list evl_nil) (op_eq (cm_nil _) (by decide))) ?_
    · rw [List.getElem?_map] at hy
      obtain ⟨q, hq, rfl⟩ := Option.map_eq_some_iff.mp hy
      have e : (r0 :: rs).getD j [] = q := by rw [List.getD_eq_getElem?_getD, hq]; rfl
      have hql := hrows q (List.mem_of_getElem? hq)
      rw [e]
      refine ⟨_, asg_name, capt_sub, tst_nil, fun _ => ev_eq (ev_blt (evl_cons ev_name evl_nil) (op_len_list (.inl rfl) (by rw [List.length_map]; omega))) (by rw [List.length_map])⟩
    · rw [outs_map (fun q : List Oct => V.int (q.length : Nat)) [] (r0 :: rs) (by simp)]
      rw [List.map_map]; rfl
    · rw [List.getElem?_map] at hy
      obtain ⟨q, hq, rfl⟩ := Option.map_eq_some_iff.mp hy
      have e : (r0 :: rs).getD j [] = q := by rw [List.getD_eq_getElem?_getD, hq]; rfl
      have hqm := hmm q (List.mem_of_getElem? hq)
      have h0m := hmm r0 List.mem_cons_self
      have him : i < m := by simpa using hb
      have ha : q[i]? = some q[i] := List.getElem?_eq_getElem (by omega)
      have hb' : r0[i]? = some r0[i] := List.getElem?_eq_getElem (by omega)
      rw [e]
      have hil : i ≤ 1000000 := Nat.le_trans hi (by omega)
      refine ⟨_, asg_name, capt_sub, tst_one (evb_eq (evb_cmp (ev_sub ev_name ev_name (.lst (.inl rfl)) (op_item_list (y := .tx k q[i]) (.inl rfl) (by omega) (by omega) (by rw [Int.toNat_natCast, List.getElem?_map, ha]; rfl))) (ev_sub (ev_sub ev_name ev_int (.lst (.inl rfl)) (op_item_list (y := lsV k r0) (.inl rfl) (by decide) (by decide) rfl)) ev_name (.lst (.inl rfl)) (op_item_list (y := .tx k r0[i]) (.inl rfl) (by omega) (by omega) (by rw [Int.toNat_natCast, List.getElem?_map, hb']; rfl))) op_ne_tx) ?_), fun _ => ev_name⟩
      rw [ha, hb', Bool.eq_iff_iff, bne_iff_ne, bne_iff_ne]
      exact not_congr ⟨fun h => by rw [h], fun h => Option.some.inj h⟩
    · rw [outs_filter (fun q : List Oct => q[i]? != r0[i]?) (lsV k) [] (r0 :: rs) (by simp)]
    · rw [Bool.eq_iff_iff, Bool.and_eq_true, decide_eq_true_iff, decide_eq_true_iff, List.isEmpty_iff, List.map_eq_nil_iff, List.filter_eq_nil_iff]
      constructor
      · rintro ⟨h1, h2⟩
        rcases Nat.lt_or_ge i K.length with h | h
        · exact h
        · have hiK : i = K.length := by omega
          rcases hend with ⟨r, hr, hle⟩ | ⟨r, hr, hne⟩
          · have := hmm r hr; omega
          · exact absurd (by simpa using h2 r (List.mem_cons_of_mem _ hr)) (hiK ▸ hne)
      · intro h
        obtain ⟨a, h1, h2⟩ := hlt i h
        have hall : ∀ r ∈ r0 :: rs, r[i]? = some a := fun r hr => by
          rcases List.mem_cons.mp hr with rfl | hr
          · exact h1
          · exact h2 r hr
        refine ⟨?_, fun r hr => by rw [hall r hr, h1]; simp⟩
        rcases List.mem_cons.mp hm with e | hm
        · have := (List.getElem?_eq_some_iff.mp h1).1; omega
        · obtain ⟨r, hr, rfl⟩ := List.mem_map.mp hm
          have := (List.getElem?_eq_some_iff.mp (h2 r hr)).1; omega
  · refine ex_step (ex1_aug (z := .int ((i + 1 : Nat) : Int)) ev_int op_iadd_int) ?_
    exact ex_nil (.nx (by omega) (sub_of ⟨rfl, rfl, rfl, rfl, trivial⟩))
  · have hjl := jn_len K
    refine ex_ret (ev_bin (ev_eq (y := .tx k (if t.root = [] then [] else [47])) (ev_if (c := t.root != []) (evb_val rfl (ev_sub ev_name ev_int (.lst (.inl rfl)) (op_item_list (y := .bool (t.root != [])) (.inl rfl) (by decide) (by decide) rfl)) tr_bool) (fun _ => ev_name) (fun _ => ev_pre0 (σ₁ := []) T ev_name (by decide))) ?_) (ev_meth ev_name (evl_cons (ev_eq (y := .list (K.map (.tx k))) (ev_slcL (ev_sub ev_name ev_int (.lst (.inl rfl)) (op_item_list (y := lsV k r0) (.inl rfl) (by decide) (by decide) rfl)) evp_none (evp_some ev_name) (by rw [List.length_map]; have := hrows r0 List.mem_cons_self; omega)) (by rw [psl_upto, ← List.map_take, htk])) evl_nil) (T.join _ _ [47] K _ (.inl rfl) (Nat.le_trans (show tot K ≤ 1000000 from hct) (by decide)))) (T.add _ _ _ _ ?_)) ret_end
    · by_cases hr : t.root = []
      · rw [if_pos hr, if_neg (by simpa using hr)]
      · rw [if_neg hr, if_pos (by simpa using hr)]
    · split <;> (simp; omega)
end
end Mine
end
section
open PySem PySem.W PyProof.Rows PySem.Calls PySem.SeqAt
set_option Elab.async false
set_option linter.unusedVariables false
set_option linter.unusedSectionVars false
set_option maxRecDepth 100000
namespace Mine
/-- the names of three dots -/
noncomputable def ddd : List Oct := [[46, 46, 46], [46, 46, 46]]
/-- what commonpath answers, and what the law says -/
noncomputable def CommL (u : TD) (us : List TD) (B : List Oct) : Prop :=
  (∃ b, (∀ x ∈ u :: us, rooted (jos x.path B) = b) ∧ lcom u us B = some (cpOf b (jos u.path B) (us.map fun x => jos x.path B))) ∨
  ((∃ x ∈ u :: us, rooted (jos x.path B) = true) ∧ (∃ x ∈ u :: us, rooted (jos x.path B) = false) ∧ lcom u us B = none)
/-- what _law_right asks -/
structure RightL (p0 : Oct) (ps : List Oct) (t u : TD) (us : List TD) : Prop where
  join : jos p0 ps = t.path
  abs : rooted t.path = (t.root != [])
  sroot : srt t.path = (t.root, t.path.drop t.root.length)
  head : dn t.path = t.head
  tail : bn t.path = t.tail
  sx : sx t.path = (t.body, t.ending)
  np : np t.path = t.plain
  comm0 : CommL u us []
  comm3 : CommL u us ddd
structure SzR (p0 : Oct) (ps : List Oct) (t u : TD) (us : List TD) : Prop where
  parts : p0.length + tot ps ≤ 100000
  path : t.path.length ≤ 100000
  paths : ∀ x ∈ u :: us, x.path.length ≤ 100000
  pieces : ∀ x ∈ u :: us, tot x.pieces ≤ 100000
  roots : ∀ x ∈ u :: us, x.root.length ≤ 1000
  few : us.length ≤ 2
theorem cm_triple {m : Nat} {x₁ x₂ x₃ y₁ y₂ y₃ : V} {a b c : Bool} (h1 : Cm m x₁ y₁ a) (h2 : Cm m x₂ y₂ b) (h3 : Cm m x₃ y₃ c) : Cm (m + 1) (.tup [x₁, x₂, x₃]) (.tup [y₁, y₂, y₃]) (a && b && c) := by
  have d := Cm.tup m [x₁, x₂, x₃] [y₁, y₂, y₃] (fun j => if j = 0 then a else if j = 1 then b else c) (fun j x y hx hy => by
    match j, hx, hy with
    | 0, hx, hy => cases hx; cases hy; exact h1
    | 1, hx, hy => cases hx; cases hy; exact h2
    | 2, hx, hy => cases hx; cases hy; exact h3
    | j + 3, hx, hy => simp at hx)
  have e : ((List.range (min [x₁, x₂, x₃].length [y₁, y₂, y₃].length)).all (fun j => if j = 0 then a else if j = 1 then b else c) && [x₁, x₂, x₃].length == [y₁, y₂, y₃].length) = (a && b && c) := by
    show ((List.range 3).all _ && _) = _
    simp [List.range_succ, Bool.and_assoc]
  rw [e] at d
  exact d
theorem cm_tt (k : Kd) (a b : Oct) (h : a = b) : Cm 0 (.tx k a) (.tx k b) true := by subst h; have := cm_tx k a a; rwa [beq_self_eq_true] at this
theorem cm_opt (k : Kd) (a : Option Oct) : Cm 0 (optV k a) (optV k a) true := by
  cases a with
  | none => exact .none _
  | some t => exact cm_tt k t t rfl
section
variable {g : Glo} {sc : Scope} {n : Nat} {ρ : Loc} {σ : List MO}
theorem ev_neg3 {p p' : Pos} {k : Nat} : Ev g sc n (.UnaryOp .USub (.Constant (.int 3) k p) p') ρ σ (.int (-3)) σ := by
  refine ev_un ev_int (.of fun env ρ A R P δ s Q v hA I hv h => ?_)
  obtain ⟨t, rfl⟩ := hv.tells
  exact PyProof.Rows.neg_int (stay _ I h (.int _ _))
end
section
variable {g : Glo} (H : Has g pw) {k : Kd} (T : TxOps g k) (C : TxCmp g k) {σ : List MO}
include H T C
theorem c_lright (p0 : Oct) (ps : List Oct) (ts : List TD) (t u : TD) (us : List TD) (hts : ts.getLast? = some t) (hlast : ts.drop (ts.length - 3) = u :: us) (hn : ts.length ≤ 1000) (hps : ps.length ≤ 1000) (r : RightL p0 ps t u us) (z : SzR p0 ps t u us) :
    Fn g 10 "_law_right" [lsV k (p0 :: ps), tdsV k ts, .tx k [47], .tx k [46]] σ (.bool true) σ := by
  obtain ⟨z1, z2, z3, z4, z5, z6⟩ := z
  have hrl : t.root.length ≤ t.path.length := by
    have h1 := srt_len t.path
    rw [r.sroot] at h1; exact h1.1
  refine fn_at ["parts", "stops", "slash", "dot"] (H.defs 33 _ _ _ _ _ _ _ _ _ _ rfl (by decide)) (fun _ _ _ vs h => by obtain ⟨_, _, _, _, rfl⟩ := vlen4 h; rfl) ?_
  refine ex_step (ex1_assign (x := tdV k t) (ev_sub ev_name ev_neg1 (.lst (.inl rfl)) (op_item_last (.inl rfl) (by rw [List.getLast?_map, hts]; rfl) (by rw [List.length_map]; omega)))) ?_
  refine ex_step (ex1_assign (x := .tx k t.path) (rdT ev_name (key := kPath) rfl (by decide +kernel))) ?_
  refine ex_step (ex1_assign (x := .bool (t.root != [])) (ev_cmp (rdT ev_name (key := kRoot) (y := .tx k t.root) rfl (by decide +kernel)) (ev_pre0 (σ₁ := []) T ev_name (by decide)) op_ne_tx)) ?_
  refine ex_if (b := false) (evb_eq (evb_or (evb_cmp (ev_call 4 (xs := .tx k p0 :: ps.map (.tx k)) ?_ (c_join H T p0 ps (by omega))) ev_name op_ne_tx) fun _ => evb_cmp (ev_call 4 (evl_cons ev_name evl_nil) (c_isabs H T t.path σ)) ev_name op_isnot_bool) ?_) (fun h => nomatch h) (fun _ => ?_)
  · rw [show (V.tx k p0 :: ps.map (V.tx k)) = V.tx k p0 :: (ps.map (V.tx k) ++ []) by rw [List.append_nil]]
    exact evl_cons (ev_sub ev_name ev_int (.lst (.inl rfl)) (op_item_list (.inl rfl) (by decide) (by decide) rfl)) (evl_star (.inl (ev_eq (ev_slcL ev_name (evp_some ev_int) evp_none (by simp; omega)) (by rw [show psl (List.map (V.tx k) (p0 :: ps)) (some (1 : Int)) none = (List.map (V.tx k) (p0 :: ps)).drop 1 from psl_from _ 1]; rfl))) (by rw [List.length_map]; omega) evl_nil)
  · have e := r.abs
    unfold rooted at e
    rw [r.join, e]; simp
  refine ex_if (b := false) (evb_eq (evb_cmp (ev_call 4 (evl_cons ev_name evl_nil) (c_splitroot H T t.path (by omega))) (ev_tuple (evl_cons (ev_pre0 (σ₁ := []) T ev_name (by decide)) (evl_cons (rdT ev_name (key := kRoot) (y := .tx k t.root) rfl (by decide +kernel)) (evl_cons (ev_eq (y := .tx k (t.path.drop t.root.length)) (ev_slc T.slc ev_name (evp_some (ev_blt (evl_cons (rdT ev_name (key := kRoot) (y := .tx k t.root) rfl (by decide +kernel)) evl_nil) (op_len_tx (by omega)))) evp_none (by omega)) (by rw [psl_from])) evl_nil)))) (op_ne (cm_triple (cm_tt k [] [] rfl) (cm_tt k _ _ (by rw [r.sroot])) (cm_tt k _ _ (by rw [r.sroot]))) (by decide))) rfl) (fun h => nomatch h) (fun _ => ?_)
  refine ex_if (b := false) (evb_eq (evb_cmp (ev_call 4 (evl_cons ev_name evl_nil) (c_split H T t.path (by omega))) (ev_tuple (evl_cons (rdT ev_name (key := kHead) (y := .tx k t.head) rfl (by decide +kernel)) (evl_cons (rdT ev_name (key := kTail) (y := .tx k t.tail) rfl (by decide +kernel)) evl_nil))) (op_ne (cm_pair (cm_tt k _ _ r.head) (cm_tt k _ _ r.tail)) (by decide))) rfl) (fun h => nomatch h) (fun _ => ?_)
  refine ex_if (b := false) (evb_eq (evb_or (evb_cmp (ev_call 4 (evl_cons ev_name evl_nil) (c_dirname H T t.path (by omega))) (rdT ev_name (key := kHead) (y := .tx k t.head) rfl (by decide +kernel)) op_ne_tx) fun _ => evb_cmp (ev_call 4 (evl_cons ev_name evl_nil) (c_basename H T t.path (by omega))) (rdT ev_name (key := kTail) (y := .tx k t.tail) rfl (by decide +kernel)) op_ne_tx) ?_) (fun h => nomatch h) (fun _ => ?_)
  · rw [r.head, r.tail]; simp
  refine ex_if (b := false) (evb_eq (evb_or (evb_cmp (ev_call 6 (evl_cons ev_name evl_nil) (c_splitext H T t.path (by omega))) (ev_tuple (evl_cons (rdT ev_name (key := kBody) (y := .tx k t.body) rfl (by decide +kernel)) (evl_cons (rdT ev_name (key := kEnding) (y := .tx k t.ending) rfl (by decide +kernel)) evl_nil))) (op_ne (cm_pair (cm_tt k _ _ (by rw [r.sx])) (cm_tt k _ _ (by rw [r.sx]))) (by decide))) fun _ => evb_cmp (ev_call 6 (evl_cons ev_name evl_nil) (c_normpath H T t.path (by omega))) (rdT ev_name (key := kPlain) (y := .tx k t.plain) rfl (by decide +kernel)) op_ne_tx) ?_) (fun h => nomatch h) (fun _ => ?_)
  · rw [r.np]; simp
  have hslc : ∀ {sc : Scope} {n : Nat} {ρ : Loc} {e : Expr} {kk : Nat} {p p' p'' p3 : Pos}, Ev g sc n e ρ σ (tdsV k ts) σ → Ev g sc n (.Subscript e (.Slice (some (.UnaryOp .USub (.Constant (.int 3) kk p) p')) none none p'') p3) ρ σ (tdsV k (u :: us)) σ := fun h => by
    refine ev_eq (ev_slcL (l := ts.map (tdV k)) h (evp_some ev_neg3) evp_none (by rw [List.length_map]; omega)) ?_
    rw [show psl (List.map (tdV k) ts) (some (-3 : Int)) none = (List.map (tdV k) ts).drop ((List.map (tdV k) ts).length - 3) from psl_last _ 3 (by decide)]
    rw [List.length_map, ← List.map_drop, hlast]; rfl
  have hmul3 : rep 3 [46] = ([46, 46, 46] : Oct) := by decide
  refine ex_forj (xs := [lsV k [], lsV k ddd]) (fun _ => [("slash", .tx k [47]), ("stops", tdsV k ts)]) (fun _ => σ) (fun _ => True) [] σ (src_list (ev_list (evl_cons (ev_list evl_nil) (evl_cons (ev_mulOne (m := 2) (x := .tx k [46, 46, 46]) rfl (ev_eq (ev_bin ev_name ev_int (T.mul _ _ [46] 3 (by decide) (by decide) (by decide))) (by rw [hmul3])) ev_int (by decide)) evl_nil))) (.inl rfl)) (sub_of ⟨rfl, rfl, trivial⟩) trivial (fun i y hy _ => ?_) (fun _ => ⟨rfl, sub_of trivial⟩) (ex_ret ev_bool ret_end)
  have hB : ∃ B, y = lsV k B ∧ CommL u us B ∧ tot B ≤ 8 ∧ B.length ≤ 2 := by
    match i, hy with
    | 0, hy => exact ⟨[], (Option.some.inj hy).symm, r.comm0, by decide, by decide⟩
    | 1, hy => exact ⟨ddd, (Option.some.inj hy).symm, r.comm3, by decide, by decide⟩
    | i + 2, hy => simp at hy
  obtain ⟨B, rfl, hc, hB8, hB2⟩ := hB
  refine ⟨_, asg_name, ?_⟩
  have hjl : ∀ x ∈ u :: us, (jos x.path B).length ≤ 200000 := fun x hx => by
    have h1 := jos_len B x.path
    have h2 := z3 x hx
    omega
  have hz : tot (jos u.path B :: us.map fun x => jos x.path B) ≤ 1000000 := by
    have h1 := hjl u List.mem_cons_self
    rw [tot_cons]
    match us, z6, hjl with
    | [], _, _ => show _ + tot [] ≤ _; have : tot ([] : List Oct) = 0 := rfl; omega
    | [a], _, hjl =>
      have h2 := hjl a (by simp)
      show _ + tot [jos a.path B] ≤ _
      rw [tot_cons]; have : tot ([] : List Oct) = 0 := rfl; omega
    | [a, b], _, hjl =>
      have h2 := hjl a (by simp)
      have h3 := hjl b (by simp)
      show _ + tot [jos a.path B, jos b.path B] ≤ _
      rw [tot_cons, tot_cons]; have : tot ([] : List Oct) = 0 := rfl; omega
    | a :: b :: c :: l, h, _ => simp at h
  have hcm : Fn g 2 "_law_common" [tdsV k (u :: us), .tx k [47], lsV k B] σ (optV k (lcom u us B)) σ := c_lcommon H T u us B (by omega) (fun x hx => by
    have h1 := z4 x hx
    unfold rowB
    rw [tot_append]; omega) z5
  rcases hc with ⟨b, hb, e⟩ | ⟨hT, hF, e⟩
  · refine ex_try (ex_step (ex1_assign (ev_call 8 (evl_cons (ev_lc (xs := (u :: us).map (tdV k)) (y := .list ((jos u.path B :: us.map fun x => jos x.path B).map (.tx k))) (fun _ => true) (fun j => .tx k (jos ((u :: us).getD j td0).path B)) (src_list (hslc ev_name) (.inl rfl)) (by simp; omega) (fun j y hy => ?_) ?_) evl_nil) (c_common H T C (jos u.path B) (us.map fun x => jos x.path B) b ?_ hz))) (ex_nil ?_))
    · rw [List.getElem?_map] at hy
      obtain ⟨q, hq, rfl⟩ := Option.map_eq_some_iff.mp hy
      have e : (u :: us).getD j td0 = q := by rw [List.getD_eq_getElem?_getD, hq]; rfl
      have hql := z3 q (List.mem_of_getElem? hq)
      rw [e]
      refine ⟨_, asg_name, capt_sub, tst_nil, fun _ => ev_call 4 (xs := .tx k q.path :: B.map (.tx k)) ?_ (c_join H T q.path B (by omega))⟩
      rw [show (V.tx k q.path :: B.map (V.tx k)) = V.tx k q.path :: (B.map (V.tx k) ++ []) by rw [List.append_nil]]
      exact evl_cons (rdT ev_name (key := kPath) rfl (by decide +kernel)) (evl_star (.inl ev_name) (by rw [List.length_map]; omega) evl_nil)
    · rw [outs_map (fun q : TD => V.tx k (jos q.path B)) td0 (u :: us) (by simp)]
      simp
    · intro q hq
      rcases List.mem_cons.mp hq with rfl | hq
      · exact hb u List.mem_cons_self
      · obtain ⟨x, hx, rfl⟩ := List.mem_map.mp hq
        exact hb x (List.mem_cons_of_mem _ hx)
    show Ex g _ _ _ _ _ _
    rw [e] at hcm
    refine ex_if (b := false) (evb_eq (evb_cmp ev_name (ev_call 2 (evl_cons (hslc ev_name) (evl_cons ev_name (evl_cons ev_name evl_nil))) hcm) (op_ne (cm_opt k (some (cpOf b (jos u.path B) (us.map fun x => jos x.path B)))) (by decide))) rfl) (fun h => nomatch h) (fun _ => ?_)
    exact ex_nil (.nx trivial (sub_of ⟨rfl, rfl, trivial⟩))
  · refine ex_tryX (evX_call 8 (evl_cons (ev_lc (xs := (u :: us).map (tdV k)) (y := .list ((jos u.path B :: us.map fun x => jos x.path B).map (.tx k))) (fun _ => true) (fun j => .tx k (jos ((u :: us).getD j td0).path B)) (src_list (hslc ev_name) (.inl rfl)) (by simp; omega) (fun j y hy => ?_) ?_) evl_nil) (c_commonX H T (jos u.path B) (us.map fun x => jos x.path B) ?_ ?_ hz)) ?_
    · rw [List.getElem?_map] at hy
      obtain ⟨q, hq, rfl⟩ := Option.map_eq_some_iff.mp hy
      have e : (u :: us).getD j td0 = q := by rw [List.getD_eq_getElem?_getD, hq]; rfl
      have hql := z3 q (List.mem_of_getElem? hq)
      rw [e]
      refine ⟨_, asg_name, capt_sub, tst_nil, fun _ => ev_call 4 (xs := .tx k q.path :: B.map (.tx k)) ?_ (c_join H T q.path B (by omega))⟩
      rw [show (V.tx k q.path :: B.map (V.tx k)) = V.tx k q.path :: (B.map (V.tx k) ++ []) by rw [List.append_nil]]
      exact evl_cons (rdT ev_name (key := kPath) rfl (by decide +kernel)) (evl_star (.inl ev_name) (by rw [List.length_map]; omega) evl_nil)
    · rw [outs_map (fun q : TD => V.tx k (jos q.path B)) td0 (u :: us) (by simp)]
      simp
    · obtain ⟨x, hx, h⟩ := hT
      refine ⟨jos x.path B, ?_, h⟩
      exact (List.mem_map (f := fun x : TD => jos x.path B) (l := u :: us)).mpr ⟨x, hx, rfl⟩
    · obtain ⟨x, hx, h⟩ := hF
      refine ⟨jos x.path B, ?_, h⟩
      exact (List.mem_map (f := fun x : TD => jos x.path B) (l := u :: us)).mpr ⟨x, hx, rfl⟩
    rw [e] at hcm
    refine ex_if (b := false) (evb_eq (evb_cmp ev_name (ev_call 2 (evl_cons (hslc ev_name) (evl_cons ev_name (evl_cons ev_name evl_nil))) hcm) (op_ne (cm_opt k none) (by decide))) rfl) (fun h => nomatch h) (fun _ => ?_)
    exact ex_nil (.nx trivial (sub_of ⟨rfl, rfl, trivial⟩))
end
end Mine
end
section
open PySem PySem.W PyProof.Rows PySem.Calls PySem.SeqAt
set_option Elab.async false
set_option linter.unusedVariables false
set_option maxRecDepth 100000
namespace Mine
-- the last piece: its stem and its ending
structure TI (stem ending : Oct) (word : Bool) : Prop where
  s1 : (47 : UInt8) ∉ stem
  s2 : (47 : UInt8) ∉ ending
  shape : (word = false ∧ ending = [] ∧ ∀ c ∈ stem, c = 46) ∨ (word = true ∧ ((ending = [] ∧ ∃ d w, stem = d ++ w ∧ (∀ c ∈ d, c = 46) ∧ w ≠ [] ∧ (46 : UInt8) ∉ w) ∨ ∃ e, ending = 46 :: e ∧ (46 : UInt8) ∉ e ∧ ∃ c ∈ stem, c ≠ 46))
theorem ti0 : TI [] [] false := ⟨by simp, by simp, .inl ⟨rfl, rfl, by simp⟩⟩
theorem TI.dot {stem ending : Oct} (h : TI stem ending true) : TI (stem ++ ending) [46] true := by
  refine ⟨by rw [List.mem_append]; exact fun x => x.elim h.s1 h.s2, by decide, .inr ⟨rfl, .inr ⟨[], rfl, by simp, ?_⟩⟩⟩
  rcases h.shape with ⟨e, _⟩ | ⟨_, ⟨rfl, d, w, rfl, h1, h2, h3⟩ | ⟨e, rfl, h1, c, hc, h2⟩⟩
  · cases e
  · obtain ⟨c, w, rfl⟩ := List.exists_cons_of_ne_nil h2
    exact ⟨c, by simp, fun e => h3 (e ▸ List.mem_cons_self)⟩
  · exact ⟨c, List.mem_append_left _ hc, h2⟩
theorem TI.more {stem ending : Oct} {word : Bool} {c : UInt8} (h : TI stem ending word) (hc : c ≠ 47) (hd : ¬ (c = 46 ∧ word = true)) (he : ending ≠ []) : TI stem (ending ++ [c]) word := by
  refine ⟨h.s1, by simp [h.s2, Ne.symm hc], ?_⟩
  rcases h.shape with ⟨_, e, _⟩ | ⟨hw, ⟨e, _⟩ | ⟨e, rfl, h1, h2⟩⟩
  · exact absurd e he
  · exact absurd e he
  · have : c ≠ 46 := fun e => hd ⟨e, hw⟩
    exact .inr ⟨hw, .inr ⟨e ++ [c], rfl, by simp [h1, Ne.symm this], h2⟩⟩
theorem TI.word {stem : Oct} {word : Bool} {c : UInt8} (h : TI stem [] word) (hc : c ≠ 47) (hd : ¬ (c = 46 ∧ word = true)) : TI (stem ++ [c]) [] (word || (c != 46)) := by
  refine ⟨by simp [h.s1, Ne.symm hc], h.s2, ?_⟩
  rcases h.shape with ⟨rfl, _, h1⟩ | ⟨rfl, ⟨_, d, w, rfl, h1, h2, h3⟩ | ⟨e, he, _⟩⟩
  · by_cases e : c = 46
    · subst e
      exact .inl ⟨rfl, rfl, fun x hx => by
        rcases List.mem_append.mp hx with hx | hx
        · exact h1 x hx
        · exact List.mem_singleton.mp hx⟩
    · exact .inr ⟨by simpa using e, .inl ⟨rfl, stem, [c], rfl, h1, by simp, by simpa using Ne.symm e⟩⟩
  · have e : c ≠ 46 := fun e => hd ⟨e, rfl⟩
    exact .inr ⟨rfl, .inl ⟨rfl, d, w ++ [c], by simp, h1, by simp, by simp [h3, Ne.symm e]⟩⟩
  · cases he
theorem sx_dots {d w : Oct} (h1 : ∀ c ∈ d, c = 46) (hw : (46 : UInt8) ∉ w) (hs : (47 : UInt8) ∉ d ++ w) : sx (d ++ w) = (d ++ w, []) := by
  unfold sx
  rw [aft_none 47 _ hs]
  rcases snoc_cases d with rfl | ⟨d', c, rfl⟩
  · rw [List.nil_append, aft_none 46 w hw]; rfl
  · have hc : c = 46 := h1 c (by simp)
    subst hc
    have : (d' ++ [46] ++ w) = d' ++ 46 :: w := by simp
    rw [this, aft_at 46 d' w hw, Nat.add_sub_cancel, List.take_left, List.drop_zero]
    have : d'.any (· != 46) = false := by
      rw [List.any_eq_false]
      intro x hx
      have := h1 x (by simp [hx])
      simp [this]
    rw [this, Bool.and_false]; rfl
theorem TI.sx {stem ending : Oct} {word : Bool} (h : TI stem ending word) : Mine.sx (stem ++ ending) = (stem, ending) := by
  have hs : (47 : UInt8) ∉ stem ++ ending := by rw [List.mem_append]; exact fun x => x.elim h.s1 h.s2
  rcases h.shape with ⟨_, rfl, h1⟩ | ⟨_, ⟨rfl, d, w, rfl, h1, h2, h3⟩ | ⟨e, rfl, h1, c, hc, h2⟩⟩
  · have := sx_dots (d := stem) (w := []) h1 (by simp) hs
    rw [this, List.append_nil]
  · rw [List.append_nil] at hs ⊢
    exact sx_dots h1 h3 hs
  · unfold Mine.sx
    rw [aft_none 47 _ hs, aft_at 46 stem e h1, Nat.add_sub_cancel, List.take_left, List.drop_left, List.drop_zero]
    have : stem.any (· != 46) = true := List.any_eq_true.mpr ⟨c, hc, by simpa using h2⟩
    rw [this, Bool.and_true, if_pos (by simp)]
end Mine
end
section
open PySem PySem.W PyProof.Rows PySem.Calls PySem.SeqAt
set_option Elab.async false
set_option linter.unusedVariables false
set_option maxRecDepth 100000
namespace Mine
/-- the last run of slashes -/
noncomputable def lg (l : List (Oct × Nat)) : Nat := match l.getLast? with
  | none => 0
  | some x => x.2
theorem lg_snoc (l : List (Oct × Nat)) (n : Oct) (k : Nat) : lg (l ++ [(n, k)]) = k := by simp [lg]
theorem zr_lg (l : List (Oct × Nat)) : ssp (zr l) ++ sl (lg l) = ssp l := by
  rcases snoc_cases l with rfl | ⟨l, ⟨n, k⟩, rfl⟩
  · rfl
  · rw [zr_snoc, lg_snoc, ssp_append, ssp_append, ssp_one, ssp_one]
    show ssp l ++ (n ++ sl 0) ++ sl k = _
    rw [show sl 0 = ([] : Oct) from rfl, List.append_nil, List.append_assoc]
noncomputable def notDot (l : List Oct) : List Oct := l.filter fun c => c != [46]
theorem notDot_app (a b : List Oct) : notDot (a ++ b) = notDot a ++ notDot b := by unfold notDot; rw [List.filter_append]
theorem notDot_one (t : Oct) : notDot [t] = dotless t := by
  unfold notDot dotless
  by_cases h : t = [46]
  · subst h; rfl
  · rw [if_neg h, List.filter_cons_of_pos (by simpa using h)]; rfl
/-- what was read: names, each with its slashes; what is left is the last piece -/
structure GI (s : LS) (l : List (Oct × Nat)) : Prop where
  wf : ∀ x ∈ l, WN x.1 ∧ 1 ≤ x.2
  head : s.head = sl s.front ++ ssp (zr l)
  gap : s.gap = lg l
  ti : TI s.stem s.ending s.word
  pieces : s.pieces = notDot (nms l)
  fold : (nms l).foldl (npS (decide (s.front ≠ 0))) [] = List.replicate s.ups [46, 46] ++ s.names
  nod : ([46, 46] : Oct) ∉ s.names
  rt : s.front ≠ 0 → s.ups = 0
theorem gi0 : GI LS0 [] := ⟨by simp, rfl, rfl, ti0, rfl, rfl, by simp [LS0], by simp [LS0]⟩
theorem GI.path {s : LS} {l : List (Oct × Nat)} (h : GI s l) : s.head ++ sl s.gap = sl s.front ++ ssp l := by
  rw [h.head, h.gap, List.append_assoc, zr_lg]
theorem GI.ends {s : LS} {l : List (Oct × Nat)} (h : GI s l) : EndS (sl s.front ++ ssp l) := endS_ssp _ _ fun x hx => (h.wf x hx).2
theorem GI.tail {s : LS} {l : List (Oct × Nat)} (h : GI s l) : (47 : UInt8) ∉ tailOf s := by
  unfold tailOf; rw [List.mem_append]; exact fun x => x.elim h.ti.s1 h.ti.s2
theorem replicate_last (u : Nat) (x : Oct) (h : 0 < u) : (List.replicate u x).getLast? = some x := by
  cases u with
  | zero => omega
  | succ u => rw [List.replicate_succ', List.getLast?_append]; rfl
/-- one piece more, as normpath takes it up -/
theorem pas_step {s : LS} (hn : ([46, 46] : Oct) ∉ s.names) (hr : s.front ≠ 0 → s.ups = 0) (t : Oct) :
    npS (decide (s.front ≠ 0)) (List.replicate s.ups [46, 46] ++ s.names) t = List.replicate (pas s t).1 [46, 46] ++ (pas s t).2 ∧ ([46, 46] : Oct) ∉ (pas s t).2 ∧ (s.front ≠ 0 → (pas s t).1 = 0) := by
  have en1 : ∀ (r : Bool) (acc : List Oct), (t = [] ∨ t = [46]) → npS r acc t = acc := fun r acc h => by
    unfold npS; rw [if_pos (by rcases h with rfl | rfl <;> decide)]
  have en2 : ∀ (r : Bool) (acc : List Oct), ¬ (t = [] ∨ t = [46]) → ((t != [46, 46]) || (!r && acc.isEmpty) || (!acc.isEmpty && acc.getLast? == some [46, 46])) = true → npS r acc t = acc ++ [t] := fun r acc h h2 => by
    unfold npS; rw [if_neg (by rw [not_or] at h; simp [h.1, h.2]), if_pos h2]
  have en3 : ∀ (r : Bool) (acc : List Oct), ¬ (t = [] ∨ t = [46]) → ((t != [46, 46]) || (!r && acc.isEmpty) || (!acc.isEmpty && acc.getLast? == some [46, 46])) = false → npS r acc t = acc.dropLast := fun r acc h h2 => by
    unfold npS; rw [if_neg (by rw [not_or] at h; simp [h.1, h.2]), if_neg (by rw [h2]; decide)]
  by_cases h1 : t = [] ∨ t = [46]
  · have ep : pas s t = (s.ups, s.names) := by unfold pas; rw [if_pos h1]
    rw [ep, en1 _ _ h1]
    exact ⟨rfl, hn, hr⟩
  · by_cases h2 : t = [46, 46]
    · by_cases h3 : s.names = []
      · by_cases h4 : s.front = 0
        · have ep : pas s t = (s.ups + 1, []) := by unfold pas; rw [if_neg h1, if_neg (by simpa using h2), if_neg (by simpa using h3), if_neg (by omega)]
          rw [ep, h3, List.append_nil, en2 _ _ h1 ?_, h2]
          · exact ⟨by rw [← List.replicate_succ', List.append_nil], by simp, fun h => absurd h4 h⟩
          · rw [h2, h4]
            rcases Nat.eq_zero_or_pos s.ups with h5 | h5
            · rw [h5]; decide
            · have e1 : (List.replicate s.ups ([46, 46] : Oct)).isEmpty = false := by
                rw [List.isEmpty_eq_false_iff]
                intro e
                rw [List.replicate_eq_nil_iff] at e
                omega
              rw [replicate_last _ _ h5, e1]; decide
        · have ep : pas s t = (0, []) := by unfold pas; rw [if_neg h1, if_neg (by simpa using h2), if_neg (by simpa using h3), if_pos (by omega)]
          have hu := hr h4
          rw [ep, h3, hu, en3 _ _ h1 ?_]
          · exact ⟨rfl, by simp, fun _ => rfl⟩
          · rw [h2, decide_eq_true h4]; decide
      · have ep : pas s t = (s.ups, s.names.dropLast) := by unfold pas; rw [if_neg h1, if_neg (by simpa using h2), if_pos h3]
        have hl : (List.replicate s.ups [46, 46] ++ s.names).getLast? = s.names.getLast? := by
          rw [List.getLast?_append]
          cases e : s.names.getLast? with
          | none => exact absurd (List.getLast?_eq_none_iff.mp e) h3
          | some x => rfl
        have hne : (s.names.getLast? == some ([46, 46] : Oct)) = false := by
          rw [beq_eq_false_iff_ne]
          intro e
          exact hn (List.mem_of_getLast? e)
        have hem : (List.replicate s.ups ([46, 46] : Oct) ++ s.names).isEmpty = false := by
          rw [List.isEmpty_eq_false_iff]
          intro e
          exact h3 (List.append_eq_nil_iff.mp e).2
        rw [ep, en3 _ _ h1 ?_]
        · exact ⟨List.dropLast_append_of_ne_nil h3, fun h => hn ((List.dropLast_sublist _).subset h), hr⟩
        · rw [hl, hne, hem, h2]; simp
    · have ep : pas s t = (s.ups, s.names ++ [t]) := by unfold pas; rw [if_neg h1, if_pos h2]
      rw [ep, en2 _ _ h1 ?_]
      · exact ⟨by rw [List.append_assoc], by simp [hn, Ne.symm h2], hr⟩
      · have : (t != [46, 46]) = true := by simpa using h2
        rw [this]; rfl
theorem nms_app1 (l : List (Oct × Nat)) (t : Oct) (m : Nat) : nms (l ++ [(t, m)]) = nms l ++ [t] := nms_snoc l (t, m)
/-- the names with the last piece -/
noncomputable def withTail (l : List (Oct × Nat)) (t : Oct) : List (Oct × Nat) := if t = [] then l else l ++ [(t, 0)]
theorem withTail_ssp (l : List (Oct × Nat)) (t : Oct) : ssp (withTail l t) = ssp l ++ t := by
  unfold withTail
  split
  · rename_i h; rw [h, List.append_nil]
  · rw [ssp_append, ssp_one, show sl 0 = ([] : Oct) from rfl, List.append_nil]
theorem GI.wft {s : LS} {l : List (Oct × Nat)} (h : GI s l) : WF (withTail l (tailOf s)) := by
  unfold withTail
  split
  · exact ⟨fun x hx => (h.wf x hx).1, fun x hx => (h.wf x ((List.dropLast_sublist _).subset hx)).2⟩
  · rename_i ht
    refine ⟨fun x hx => ?_, fun x hx => ?_⟩
    · rcases List.mem_append.mp hx with hx | hx
      · exact (h.wf x hx).1
      · rw [List.mem_singleton.mp hx]; exact ⟨ht, h.tail⟩
    · rw [List.dropLast_concat] at hx
      exact (h.wf x hx).2
theorem GI.foldt {s : LS} {l : List (Oct × Nat)} (h : GI s l) : (nms (withTail l (tailOf s))).foldl (npS (decide (s.front ≠ 0))) [] = List.replicate (pas s (tailOf s)).1 [46, 46] ++ (pas s (tailOf s)).2 := by
  have hp := (pas_step h.nod h.rt (tailOf s)).1
  unfold withTail
  split
  · rename_i ht
    rw [h.fold, ht]
    have : pas s [] = (s.ups, s.names) := by unfold pas; rw [if_pos (.inl rfl)]
    rw [this]
  · rw [nms_app1, List.foldl_append, h.fold]
    exact hp
theorem counts_notDot (l : List (Oct × Nat)) (t : Oct) : notDot (nms (withTail l t)) = notDot (nms l) ++ counts t := by
  unfold withTail counts
  split
  · rename_i h; rw [if_pos (.inl h), List.append_nil]
  · rename_i h
    rw [nms_app1, notDot_app, notDot_one]
    unfold dotless
    by_cases h2 : t = [46]
    · rw [if_pos h2, if_pos (.inr h2)]
    · rw [if_neg h2, if_neg (by rw [not_or]; exact ⟨h, h2⟩)]
-- a sign more
theorem head_run {F : Nat} {l : List (Oct × Nat)} (hl : ∀ x ∈ l, WN x.1 ∧ 1 ≤ x.2) : (sl F ++ ssp (zr l) = sl F) ↔ l = [] := by
  constructor
  · intro h
    have h2 : ssp (zr l) = [] := by
      have := congrArg List.length h
      rw [List.length_append] at this
      exact List.length_eq_zero_iff.mp (by omega)
    rcases snoc_cases l with rfl | ⟨l, ⟨n, k⟩, rfl⟩
    · rfl
    · rw [zr_snoc, ssp_append, ssp_one, show sl 0 = ([] : Oct) from rfl, List.append_nil, List.append_eq_nil_iff] at h2
      exact absurd h2.2 (hl (n, k) (by simp)).1.1
  · rintro rfl; rw [show zr [] = [] from rfl]; simp [ssp]
theorem gi_slash {s : LS} {l : List (Oct × Nat)} (h : GI s l) : ∃ l', GI (slashS s) l' ∧ sl (slashS s).front ++ ssp l' ++ tailOf (slashS s) = sl s.front ++ ssp l ++ tailOf s ++ [47] := by
  have htl : tailOf (slashS s) = [] := rfl
  simp only [htl, List.append_nil]
  by_cases h1 : tailOf s = []
  · rw [h1, List.append_nil]
    by_cases h2 : l = []
    · subst h2
      have hh : s.head = sl s.front := by rw [h.head, show zr [] = [] from rfl]; simp [ssp]
      have e : slashM s = { s with front := s.front + 1, head := s.head ++ [47] } := by unfold slashM; rw [if_neg (by simpa using h1), if_pos hh]
      have hf : List.replicate s.ups ([46, 46] : Oct) ++ s.names = [] := h.fold.symm
      have hu : s.ups = 0 := by
        have := (List.append_eq_nil_iff.mp hf).1
        simpa using this
      have hn : s.names = [] := (List.append_eq_nil_iff.mp hf).2
      refine ⟨[], ⟨by simp, ?_, ?_, ti0, ?_, ?_, ?_, ?_⟩, ?_⟩
      · unfold slashS; rw [e]; show s.head ++ [47] = sl (s.front + 1) ++ ssp (zr []); rw [hh, sl_succ, show zr [] = [] from rfl]; simp [ssp]
      · unfold slashS; rw [e]; exact h.gap
      · unfold slashS; rw [e]; exact h.pieces
      · unfold slashS; rw [e]; show [] = List.replicate s.ups [46, 46] ++ s.names; rw [hf]
      · unfold slashS; rw [e]; exact h.nod
      · unfold slashS; rw [e]; exact fun _ => hu
      · unfold slashS; rw [e]; show sl (s.front + 1) ++ ssp [] = _; rw [sl_succ]; simp [ssp]
    · have hh : ¬ s.head = sl s.front := by rw [h.head, head_run h.wf]; exact h2
      have e : slashM s = { s with gap := s.gap + 1 } := by unfold slashM; rw [if_neg (by simpa using h1), if_neg hh]
      obtain ⟨l0, ⟨n, k⟩, rfl⟩ := (snoc_cases l).resolve_left h2
      refine ⟨l0 ++ [(n, k + 1)], ⟨?_, ?_, ?_, ti0, ?_, ?_, ?_, ?_⟩, ?_⟩
      · intro x hx
        rcases List.mem_append.mp hx with hx | hx
        · exact h.wf x (List.mem_append_left _ hx)
        · rw [List.mem_singleton.mp hx]
          exact ⟨(h.wf (n, k) (by simp)).1, Nat.succ_pos _⟩
      · unfold slashS; rw [e, zr_snoc]; have := h.head; rw [zr_snoc] at this; exact this
      · unfold slashS; rw [e, lg_snoc]; have := h.gap; rw [lg_snoc] at this; show s.gap + 1 = k + 1; rw [this]
      · unfold slashS; rw [e, nms_app1]; have := h.pieces; rw [nms_app1] at this; exact this
      · unfold slashS; rw [e, nms_app1]; have := h.fold; rw [nms_app1] at this; exact this
      · unfold slashS; rw [e]; exact h.nod
      · unfold slashS; rw [e]; exact h.rt
      · unfold slashS; rw [e]
        show sl s.front ++ ssp (l0 ++ [(n, k + 1)]) = sl s.front ++ ssp (l0 ++ [(n, k)]) ++ [47]
        rw [ssp_append, ssp_append, ssp_one, ssp_one, sl_succ]; simp
  · have e : slashM s = { s with ups := (pas s (tailOf s)).1, names := (pas s (tailOf s)).2, pieces := s.pieces ++ dotless (tailOf s), head := s.head ++ sl s.gap ++ tailOf s, gap := 1 } := by unfold slashM; rw [if_pos h1]
    obtain ⟨p1, p2, p3⟩ := pas_step h.nod h.rt (tailOf s)
    refine ⟨l ++ [(tailOf s, 1)], ⟨?_, ?_, ?_, ti0, ?_, ?_, ?_, ?_⟩, ?_⟩
    · intro x hx
      rcases List.mem_append.mp hx with hx | hx
      · exact h.wf x hx
      · rw [List.mem_singleton.mp hx]
        exact ⟨⟨h1, h.tail⟩, Nat.le_refl _⟩
    · unfold slashS; rw [e, zr_snoc, ssp_append, ssp_one]
      show s.head ++ sl s.gap ++ tailOf s = sl s.front ++ (ssp l ++ (tailOf s ++ sl 0))
      rw [h.path, show sl 0 = ([] : Oct) from rfl]; simp
    · unfold slashS; rw [e, lg_snoc]
    · unfold slashS; rw [e, nms_app1, notDot_app, notDot_one, ← h.pieces]
    · unfold slashS; rw [e, nms_app1, List.foldl_append]
      show npS (decide (s.front ≠ 0)) (List.foldl (npS (decide (s.front ≠ 0))) [] (nms l)) (tailOf s) = _
      rw [h.fold]; exact p1
    · unfold slashS; rw [e]; exact p2
    · unfold slashS; rw [e]; exact p3
    · unfold slashS; rw [e]
      show sl s.front ++ ssp (l ++ [(tailOf s, 1)]) = _
      rw [ssp_append, ssp_one]; simp [sl]
theorem gi_sign {s : LS} {l : List (Oct × Nat)} (h : GI s l) (c : UInt8) : ∃ l', GI (signS s c) l' ∧ sl (signS s c).front ++ ssp l' ++ tailOf (signS s c) = sl s.front ++ ssp l ++ tailOf s ++ [c] := by
  unfold signS
  by_cases h1 : c = 47
  · rw [if_pos h1, h1]; exact gi_slash h
  · rw [if_neg h1]
    by_cases h2 : c = 46 ∧ s.word = true
    · rw [if_pos h2]
      have hw := h2.2
      have ht := h.ti
      rw [hw] at ht
      refine ⟨l, ⟨h.wf, h.head, h.gap, ?_, h.pieces, h.fold, h.nod, h.rt⟩, ?_⟩
      · have := ht.dot; rw [h2.1]; show TI (s.stem ++ s.ending) [46] s.word; rw [hw]; exact this
      · show sl s.front ++ ssp l ++ (s.stem ++ s.ending ++ [c]) = sl s.front ++ ssp l ++ (s.stem ++ s.ending) ++ [c]
        simp
    · rw [if_neg h2]
      by_cases h3 : s.ending ≠ []
      · rw [if_pos h3]
        refine ⟨l, ⟨h.wf, h.head, h.gap, h.ti.more h1 h2 h3, h.pieces, h.fold, h.nod, h.rt⟩, ?_⟩
        show sl s.front ++ ssp l ++ (s.stem ++ (s.ending ++ [c])) = sl s.front ++ ssp l ++ (s.stem ++ s.ending) ++ [c]
        simp
      · rw [if_neg h3]
        have he : s.ending = [] := by simpa using h3
        have ht := h.ti
        rw [he] at ht
        refine ⟨l, ⟨h.wf, h.head, h.gap, ?_, h.pieces, h.fold, h.nod, h.rt⟩, ?_⟩
        · show TI (s.stem ++ [c]) s.ending (s.word || (c != 46)); rw [he]; exact ht.word h1 h2
        · show sl s.front ++ ssp l ++ (s.stem ++ [c] ++ s.ending) = sl s.front ++ ssp l ++ (s.stem ++ s.ending) ++ [c]
          rw [he]; simp
end Mine
end
section
open PySem PySem.W PyProof.Rows PySem.Calls PySem.SeqAt
set_option Elab.async false
set_option linter.unusedVariables false
set_option maxRecDepth 100000
namespace Mine
-- what rows begin with
theorem cmn_glb : ∀ p a b : List Oct, p <+: a → p <+: b → p <+: cmn a b
  | [], _, _, _, _ => List.nil_prefix
  | x :: p, a, b, h1, h2 => by
    obtain ⟨t, rfl⟩ := h1
    obtain ⟨u, rfl⟩ := h2
    show x :: p <+: cmn (x :: (p ++ t)) (x :: (p ++ u))
    unfold cmn
    rw [if_pos rfl, List.cons_prefix_cons]
    exact ⟨rfl, cmn_glb p _ _ (List.prefix_append _ _) (List.prefix_append _ _)⟩
theorem comR_pre0 (r0 : List Oct) (rs : List (List Oct)) : comR r0 rs <+: r0 := by rw [← comR_take]; exact List.take_prefix _ _
theorem comR_pre : ∀ (r0 : List Oct) (rs : List (List Oct)), ∀ r ∈ rs, comR r0 rs <+: r
  | [], rs, r, hr => List.nil_prefix
  | a :: r0, rs, r, hr => by
    unfold comR
    split
    · rename_i hall
      have h := List.all_eq_true.mp hall r hr
      have ih := comR_pre r0 (rs.map List.tail) r.tail (List.mem_map.mpr ⟨r, hr, rfl⟩)
      cases r with
      | nil => simp at h
      | cons b r =>
        have : b = a := by simpa using h
        subst this
        rw [List.cons_prefix_cons]
        exact ⟨rfl, ih⟩
    · exact List.nil_prefix
theorem comR_glb : ∀ (p r0 : List Oct) (rs : List (List Oct)), (∀ r ∈ r0 :: rs, p <+: r) → p <+: comR r0 rs
  | [], _, _, _ => List.nil_prefix
  | x :: p, r0, rs, h => by
    obtain ⟨t, rfl⟩ := h r0 List.mem_cons_self
    show x :: p <+: comR (x :: (p ++ t)) rs
    unfold comR
    rw [if_pos, List.cons_prefix_cons]
    · refine ⟨rfl, comR_glb p _ _ fun r hr => ?_⟩
      rcases List.mem_cons.mp hr with rfl | hr
      · exact List.prefix_append _ _
      · obtain ⟨r', hr', rfl⟩ := List.mem_map.mp hr
        obtain ⟨u, rfl⟩ := h r' (List.mem_cons_of_mem _ hr')
        exact List.prefix_append p u
    · rw [List.all_eq_true]
      intro r hr
      obtain ⟨u, rfl⟩ := h r (List.mem_cons_of_mem _ hr)
      simp
theorem ltS_tri {a b : Oct} (h1 : ltS a b = false) (h2 : ltS b a = false) : a = b := by
  unfold ltS at h1 h2
  rw [decide_eq_false_iff_not] at h1 h2
  exact map_toNat_inj (Std.le_antisymm (Std.not_lt.mp h2) (Std.not_lt.mp h1))
theorem between : ∀ a b x : List Oct, ltL x a = false → ltL b x = false → cmn a b <+: x
  | [], b, x, _, _ => by cases b <;> exact List.nil_prefix
  | c :: a, [], x, _, _ => List.nil_prefix
  | c :: a, d :: b, x, h1, h2 => by
    unfold cmn
    split
    · rename_i hcd
      subst hcd
      cases x with
      | nil => exact absurd h1 (by unfold ltL; decide)
      | cons y x =>
        unfold ltL at h1 h2
        by_cases hy : y = c
        · subst hy
          rw [beq_self_eq_true, if_pos rfl] at h1 h2
          rw [List.cons_prefix_cons]
          exact ⟨rfl, between a b x h1 h2⟩
        · rw [if_neg (by simpa using hy)] at h1
          rw [if_neg (by simpa using Ne.symm hy)] at h2
          exact absurd (ltS_tri h1 h2) hy
    · exact List.nil_prefix
theorem minF_all : ∀ (xss : List (List Oct)) (x : List Oct), ∀ y ∈ x :: xss, emb (xss.foldl minS x) ≤ emb y
  | [], x, y, hy => by rw [List.mem_singleton.mp hy]; exact Std.le_refl _
  | z :: xss, x, y, hy => by
    rw [List.foldl_cons]
    have ih := minF_all xss (minS x z)
    have h1 : emb (minS x z) ≤ emb x ∧ emb (minS x z) ≤ emb z := by
      unfold minS
      split
      · rename_i h
        rw [ltL_eq, decide_eq_true_iff] at h
        exact ⟨Std.le_of_lt h, Std.le_refl _⟩
      · rename_i h
        rw [ltL_eq, decide_eq_true_iff] at h
        exact ⟨Std.le_refl _, Std.not_lt.mp h⟩
    have h0 := ih _ List.mem_cons_self
    rcases List.mem_cons.mp hy with rfl | hy
    · exact Std.le_trans h0 h1.1
    · rcases List.mem_cons.mp hy with rfl | hy
      · exact Std.le_trans h0 h1.2
      · exact ih y (List.mem_cons_of_mem _ hy)
theorem maxF_all : ∀ (xss : List (List Oct)) (x : List Oct), ∀ y ∈ x :: xss, emb y ≤ emb (xss.foldl maxS x)
  | [], x, y, hy => by rw [List.mem_singleton.mp hy]; exact Std.le_refl _
  | z :: xss, x, y, hy => by
    rw [List.foldl_cons]
    have ih := maxF_all xss (maxS x z)
    have h1 : emb x ≤ emb (maxS x z) ∧ emb z ≤ emb (maxS x z) := by
      unfold maxS
      split
      · rename_i h
        rw [ltL_eq, decide_eq_true_iff] at h
        exact ⟨Std.le_of_lt h, Std.le_refl _⟩
      · rename_i h
        rw [ltL_eq, decide_eq_true_iff] at h
        exact ⟨Std.le_refl _, Std.not_lt.mp h⟩
    have h0 := ih _ List.mem_cons_self
    rcases List.mem_cons.mp hy with rfl | hy
    · exact Std.le_trans h1.1 h0
    · rcases List.mem_cons.mp hy with rfl | hy
      · exact Std.le_trans h1.2 h0
      · exact ih y (List.mem_cons_of_mem _ hy)
theorem prefix_anti {p q : List Oct} (h1 : p <+: q) (h2 : q <+: p) : p = q := h1.eq_of_length (Nat.le_antisymm h1.length_le h2.length_le)
/-- the least and the greatest row begin with what all begin with -/
theorem cp_comR (r0 : List Oct) (rs : List (List Oct)) : cmn (rs.foldl minS r0) (rs.foldl maxS r0) = comR r0 rs := by
  have hmin := minF_all rs r0
  have hmax := maxF_all rs r0
  have m1 : rs.foldl minS r0 ∈ r0 :: rs := (minF_mem rs r0).elim (fun e => by rw [e]; exact List.mem_cons_self) (List.mem_cons_of_mem _)
  have m2 : rs.foldl maxS r0 ∈ r0 :: rs := (maxF_mem rs r0).elim (fun e => by rw [e]; exact List.mem_cons_self) (List.mem_cons_of_mem _)
  refine prefix_anti ?_ ?_
  · exact comR_glb _ _ _ fun r hr => between _ _ r ((ltL_false _ _).mpr (hmin r hr)) ((ltL_false _ _).mpr (hmax r hr))
  · have hp : ∀ r ∈ r0 :: rs, comR r0 rs <+: r := fun r hr => by
      rcases List.mem_cons.mp hr with rfl | hr
      · exact comR_pre0 _ _
      · exact comR_pre _ _ r hr
    exact cmn_glb _ _ _ (hp _ m1) (hp _ m2)
-- rows of spelled paths
theorem Spl.row {m : Nat} {L : List Oct} {p : Oct} (h : Spl m L p) : rowOf p = notDot L := by
  obtain ⟨l, hw, rfl, rfl⟩ := h
  unfold rowOf notDot
  rw [← spl_ssp l hw, ← spl_sl m (ssp l), List.filter_filter]
  congr 1
  funext c
  rw [Bool.and_comm]
theorem Spl.rooted {m : Nat} {L : List Oct} {p : Oct} (h : Spl m L p) : Mine.rooted p = decide (m ≠ 0) := by
  obtain ⟨l, hw, rfl, rfl⟩ := h
  unfold Mine.rooted
  cases m with
  | zero =>
    have := ssp_head hw
    rw [show sl 0 = ([] : Oct) from rfl, List.nil_append]
    cases e : ssp l with
    | nil => rfl
    | cons c r =>
      have hc : c ≠ 47 := fun hc => this r (by rw [e, hc])
      simpa using hc
  | succ m =>
    rw [decide_eq_true (Nat.succ_ne_zero m)]; rfl
theorem Spl.names {m : Nat} : ∀ {B L : List Oct} {p : Oct}, Spl m L p → (∀ n ∈ B, WN n) → Spl m (L ++ B) (jos p B)
  | [], L, p, h, _ => by rw [List.append_nil]; exact h
  | n :: B, L, p, h, hB => by
    have h1 : Spl 0 [n] n := by
      have := spl_names 0 [n] (fun x hx => by rw [List.mem_singleton.mp hx]; exact hB n List.mem_cons_self)
      exact this
    have h2 := h.join h1
    have := Spl.names (B := B) h2 fun x hx => hB x (List.mem_cons_of_mem _ hx)
    rw [List.append_assoc] at this
    exact this
/-- what was told is true -/
noncomputable def TdOk (x : TD) : Prop := ∃ m L, Spl m L x.path ∧ x.root = rootOf m ∧ x.pieces = notDot L
theorem rootOf_ne (m : Nat) : (rootOf m != []) = decide (m ≠ 0) := by
  unfold rootOf
  by_cases h : m = 0
  · rw [if_pos h, h]; rfl
  · rw [if_neg h, decide_eq_true h]; split <;> rfl
theorem TdOk.facts {x : TD} (h : TdOk x) {B : List Oct} (hB : ∀ n ∈ B, WN n) (hd : ([46] : Oct) ∉ B) : rowOf (jos x.path B) = rowB B x ∧ rooted (jos x.path B) = (x.root != []) := by
  obtain ⟨m, L, h1, h2, h3⟩ := h
  have h4 := h1.names hB
  refine ⟨?_, ?_⟩
  · rw [h4.row, notDot_app, ← h3]
    have : notDot B = B := by
      unfold notDot
      rw [List.filter_eq_self]
      intro c hc
      have : c ≠ [46] := fun e => hd (e ▸ hc)
      simpa using this
    rw [this]; rfl
  · rw [h4.rooted, h2, rootOf_ne]
theorem commL_of {u : TD} {us : List TD} (hok : ∀ x ∈ u :: us, TdOk x) {B : List Oct} (hB : ∀ n ∈ B, WN n) (hd : ([46] : Oct) ∉ B) : CommL u us B := by
  have hf := fun x hx => (hok x hx).facts hB hd
  cases hm : mixed (u :: us) with
  | true =>
    refine .inr ?_
    have e : lcom u us B = none := by unfold lcom; rw [if_pos hm]
    unfold mixed at hm
    rw [Bool.and_eq_true, List.contains_iff_mem, List.contains_iff_mem] at hm
    obtain ⟨h1, h2⟩ := hm
    obtain ⟨x, hx, e1⟩ := List.mem_map.mp h1
    obtain ⟨y, hy, e2⟩ := List.mem_map.mp h2
    exact ⟨⟨x, hx, by rw [(hf x hx).2, e1]⟩, ⟨y, hy, by rw [(hf y hy).2, e2]⟩, e⟩
  | false =>
    refine .inl ⟨u.root != [], fun x hx => ?_, ?_⟩
    · rw [(hf x hx).2]
      unfold mixed at hm
      have c1 : ∀ y ∈ u :: us, ((u :: us).map fun t => t.root != []).contains (y.root != []) = true := fun y hy => List.contains_iff_mem.mpr (List.mem_map.mpr ⟨y, hy, rfl⟩)
      have hx1 := c1 x hx
      have hu1 := c1 u List.mem_cons_self
      generalize (x.root != []) = p at hx1 ⊢
      generalize (u.root != []) = q at hu1 ⊢
      cases p <;> cases q <;> first | rfl | (rw [hx1, hu1] at hm; exact absurd hm (by decide))
    · unfold lcom
      rw [if_neg (by rw [hm]; decide)]
      unfold cpOf cpRows
      rw [List.map_map]
      have e1 : (us.map (rowOf ∘ fun x => jos x.path B)) = us.map (rowB B) := List.map_congr_left fun x hx => (hf x (List.mem_cons_of_mem _ hx)).1
      rw [e1, (hf u List.mem_cons_self).1, cp_comR]
      congr 2
      by_cases hr : u.root = []
      · rw [if_pos hr, if_neg (by simpa using hr)]
      · rw [if_neg hr, if_pos (by simpa using hr)]
end Mine
end
section
open PySem PySem.W PyProof.Rows PySem.Calls PySem.SeqAt
set_option Elab.async false
set_option linter.unusedVariables false
set_option maxRecDepth 100000
namespace Mine
theorem told_path {s : LS} {l : List (Oct × Nat)} (h : GI s l) : (toldOf s).path = sl s.front ++ ssp l ++ tailOf s := by
  show s.head ++ sl s.gap ++ tailOf s = _
  rw [h.path]
theorem told_spl {s : LS} {l : List (Oct × Nat)} (h : GI s l) : Spl s.front (nms (withTail l (tailOf s))) (toldOf s).path := ⟨withTail l (tailOf s), h.wft, rfl, by rw [told_path h, withTail_ssp, List.append_assoc]⟩
theorem told_ok {s : LS} {l : List (Oct × Nat)} (h : GI s l) : TdOk (toldOf s) := by
  refine ⟨_, _, told_spl h, rfl, ?_⟩
  rw [counts_notDot, ← h.pieces]; rfl
theorem srt_drop (p : Oct) : (srt p).2 = p.drop (srt p).1.length := by
  unfold srt
  split
  · rfl
  · rename_i h1
    split
    · rfl
    · rename_i h2
      have h3 : (p.take 2).length = 2 := by
        match p with
        | [] => exact absurd h1 (by decide)
        | [a] => exact absurd (show ((([a] : Oct).take 2).drop 1 != [47] || (([a] : Oct).take 3).drop 2 == [47]) = true from rfl) h2
        | a :: b :: r => rfl
      show p.drop 2 = p.drop (p.take 2).length
      rw [h3]
noncomputable def jall (ps : List Oct) : Oct := ps.foldl jo []
theorem jall_cons (p : Oct) (ps : List Oct) : jall (p :: ps) = jos p ps := by
  unfold jall jos
  rw [List.foldl_cons]
  have : jo [] p = p := by unfold jo; simp
  rw [this]
theorem right_ofG {s : LS} {l : List (Oct × Nat)} (h : GI s l) {p0 : Oct} {ps : List Oct} (hj : jall (p0 :: ps) = (toldOf s).path) {u : TD} {us : List TD} (hok : ∀ x ∈ u :: us, TdOk x) : RightL p0 ps (toldOf s) u us where
  join := by rw [← jall_cons]; exact hj
  abs := by rw [(told_spl h).rooted]; show _ = (rootOf s.front != []); rw [rootOf_ne]
  sroot := by
    have h1 := srt_drop (toldOf s).path
    obtain ⟨l', hw, hn, e⟩ := told_spl h
    obtain ⟨m', h2⟩ := srt_ssp s.front hw
    rw [← e] at h2
    have h3 : (srt (toldOf s).path).1 = rootOf s.front := by rw [h2]
    rw [h3] at h1
    exact Prod.ext h3 h1
  head := by
    rw [told_path h, dn_pre h.ends h.tail, hd_ssp _ _ fun x hx => (h.wf x hx).1]
    exact h.head.symm
  tail := by rw [told_path h, bn_pre h.ends h.tail]; rfl
  sx := by
    rw [told_path h, sx_pre h.ends h.tail]
    have : sx (tailOf s) = (s.stem, s.ending) := h.ti.sx
    rw [this]
    show (sl s.front ++ ssp l ++ s.stem, s.ending) = (s.head ++ sl s.gap ++ s.stem, s.ending)
    rw [h.path]
  np := by
    rw [told_path h, List.append_assoc, ← withTail_ssp, np_ssp _ h.wft, h.foldt]
    rfl
  comm0 := commL_of hok (by simp) (by simp)
  comm3 := commL_of hok (fun n hn => by
    have : n = [46, 46, 46] := by simpa [ddd] using hn
    rw [this]; exact ⟨by decide, by decide⟩) (by decide)
-- sizes
theorem tot_nms : ∀ (l : List (Oct × Nat)), (∀ x ∈ l, 1 ≤ x.2) → tot (nms l) ≤ (ssp l).length
  | [], _ => Nat.le_refl _
  | x :: l, h => by
    have ih := tot_nms l fun y hy => h y (List.mem_cons_of_mem _ hy)
    have h1 := h x List.mem_cons_self
    show tot (x.1 :: nms l) ≤ (x.1 ++ sl x.2 ++ ssp l).length
    rw [tot_cons, List.length_append, List.length_append, sl_length]; omega
structure SzTD (x : TD) : Prop where
  path : x.path.length ≤ 30
  root : x.root.length ≤ 2
  pieces : tot x.pieces ≤ 100
theorem counts_tot (t : Oct) : tot (counts t) ≤ t.length + 1 := by
  unfold counts
  split
  · exact Nat.zero_le _
  · rw [tot_cons]; exact Nat.le_refl _
theorem gi_sizes {s : LS} {l : List (Oct × Nat)} (h : GI s l) (hp : (toldOf s).path.length ≤ 30) : SzT s ∧ SzTD (toldOf s) := by
  have hp' := hp
  have e1 : (toldOf s).path = s.head ++ sl s.gap ++ (s.stem ++ s.ending) := rfl
  rw [e1] at hp
  simp only [List.length_append, sl_length] at hp
  have hf : s.front ≤ s.head.length := by rw [h.head, List.length_append, sl_length]; omega
  have hss : (ssp l).length ≤ 30 := by
    rw [told_path h] at hp'
    simp only [List.length_append] at hp'; omega
  have hn := tot_nms l fun x hx => (h.wf x hx).2
  have hpt : tot s.pieces ≤ 30 := by
    rw [h.pieces]
    exact Nat.le_trans (tot_filter _ _) (Nat.le_trans hn hss)
  have hfold := npF_sum (decide (s.front ≠ 0)) (nms l) []
  rw [h.fold, tot_append, tot_rep] at hfold
  have h0 : tot ([] : List Oct) = 0 := rfl
  have hl1 := tot_length s.names
  have hl2 := tot_length s.pieces
  have hc := counts_tot (tailOf s)
  have htl : (tailOf s).length = s.stem.length + s.ending.length := by unfold tailOf; rw [List.length_append]
  refine ⟨⟨⟨by omega, by omega, by omega, by omega, by omega, by omega, by omega⟩, by omega, by omega⟩, ⟨hp', ?_, ?_⟩⟩
  · show (rootOf s.front).length ≤ 2
    rw [← rtN_sl, sl_length]; exact rtN_le _
  · show tot (s.pieces ++ counts (tailOf s)) ≤ 100
    rw [tot_append]; omega
end Mine
end
section
open PySem PySem.W PyProof.Rows PySem.Calls PySem.SeqAt
set_option Elab.async false
set_option linter.unusedVariables false
set_option maxRecDepth 100000
namespace Mine
/-- what the law has at hand between its turns -/
structure WS where
  J : List MO
  s : LS
  parts : List Oct
  stops : List TD
structure WI (i : Nat) (w : WS) : Prop where
  gi : ∃ l, GI w.s l
  ne : w.parts ≠ []
  join : jall w.parts = (toldOf w.s).path
  ok : ∀ x ∈ w.stops, TdOk x ∧ SzTD x
  last : w.stops.getLast? = some (toldOf w.s)
  plen : (toldOf w.s).path.length ≤ i
  tot : tot w.parts ≤ i + 1
  slen : w.stops.length = i + 1
noncomputable def figOf (x : Int) : Nat := x.natAbs % 2048
noncomputable def codeOf (f : Nat) : Nat := ([0, 47, 46, 97, 47, 46, 98, f / 8] : List Nat).getD (f % 8) 0
noncomputable def sgnOf (f : Nat) : UInt8 := UInt8.ofNat (codeOf f)
theorem codeOf_lt (f : Nat) (h : f < 2048) : codeOf f < 256 := by
  unfold codeOf
  have h1 : f % 8 < 8 := Nat.mod_lt _ (by decide)
  have h2 : f / 8 < 256 := by omega
  generalize f / 8 = q at h2 ⊢
  match f % 8, h1 with
  | 0, _ | 1, _ | 2, _ | 3, _ | 4, _ | 5, _ | 6, _ => decide +revert
  | 7, _ => exact h2
noncomputable def lastP (ps : List Oct) : Oct := ps.getLastD []
/-- one turn of the law -/
noncomputable def stW (k : Kd) (w : WS) (x : Int) : WS :=
  if figOf x % 8 = 0 then
    let s' := if tailOf w.s ≠ [] then signS w.s 47 else w.s
    ⟨w.J, s', w.parts ++ [[]], w.stops ++ [toldOf s']⟩
  else if sgnOf (figOf x) = 47 ∧ lastP w.parts = [] then
    ⟨w.J ++ [.dict (heldV k w.s)], signS LS0 (sgnOf (figOf x)), w.parts.dropLast ++ [lastP w.parts ++ [sgnOf (figOf x)]], w.stops ++ [toldOf (signS LS0 (sgnOf (figOf x)))]⟩
  else ⟨w.J, signS w.s (sgnOf (figOf x)), w.parts.dropLast ++ [lastP w.parts ++ [sgnOf (figOf x)]], w.stops ++ [toldOf (signS w.s (sgnOf (figOf x)))]⟩
noncomputable def w0 : WS := ⟨[], LS0, [[]], [toldOf LS0]⟩
theorem wi0 : WI 0 w0 where
  gi := ⟨[], gi0⟩
  ne := by decide
  join := by decide
  ok := fun x hx => by
    rw [List.mem_singleton.mp hx]
    exact ⟨told_ok gi0, (gi_sizes gi0 (by decide)).2⟩
  last := rfl
  plen := by decide
  tot := by decide
  slen := rfl
theorem split_last {ps : List Oct} (h : ps ≠ []) : ps = ps.dropLast ++ [lastP ps] := by
  unfold lastP
  rw [List.getLastD_eq_getLast?, List.getLast?_eq_some_getLast h]
  exact (List.dropLast_concat_getLast h).symm
theorem jall_snoc (ps : List Oct) (q : Oct) : jall (ps ++ [q]) = jo (jall ps) q := by unfold jall; rw [List.foldl_append]; rfl
theorem jo_snoc (p q : Oct) (c : UInt8) (h : ¬ (c = 47 ∧ q = [])) : jo p (q ++ [c]) = jo p q ++ [c] := by
  cases q with
  | nil =>
    have hc : c ≠ 47 := fun e => h ⟨e, rfl⟩
    obtain ⟨a1, a2⟩ := jo_eq p (c := [c]) (fun r e => hc (List.cons.inj e).1)
    obtain ⟨b1, b2⟩ := jo_eq p (c := []) (fun r e => nomatch e)
    by_cases hp : EndS p
    · rw [List.nil_append, a1 hp, b1 hp]; simp
    · rw [List.nil_append, a2 hp, b2 hp]; simp
  | cons y q =>
    unfold jo
    show (if ((some y == some 47) || p.isEmpty) = true then _ else _) = (if ((some y == some 47) || p.isEmpty) = true then _ else _) ++ [c]
    split
    · rfl
    · split <;> simp
theorem wi_step {i : Nat} {w : WS} (h : WI i w) (hi : i < 20) (k : Kd) (x : Int) : WI (i + 1) (stW k w x) := by
  obtain ⟨⟨l, hg⟩, hne, hj, hok, hlast, hpl, htot, hsl⟩ := h
  have fin : ∀ (J' : List MO) (s' : LS) (l' : List (Oct × Nat)) (ps : List Oct), GI s' l' → ps ≠ [] → jall ps = (toldOf s').path → (toldOf s').path.length ≤ i + 1 → tot ps ≤ i + 1 + 1 → WI (i + 1) ⟨J', s', ps, w.stops ++ [toldOf s']⟩ := fun J' s' l' ps g1 g2 g3 g4 g5 =>
    ⟨⟨l', g1⟩, g2, g3, fun x hx => by
      rcases List.mem_append.mp hx with hx | hx
      · exact hok x hx
      · rw [List.mem_singleton.mp hx]
        exact ⟨told_ok g1, (gi_sizes g1 (by omega)).2⟩, by simp, g4, g5, by simp [hsl]⟩
  have h0 : tot ([] : List Oct) = 0 := rfl
  unfold stW
  split
  · have htt : tot (w.parts ++ [[]]) ≤ i + 1 + 1 := by rw [tot_append, tot_cons, h0]; simp; omega
    obtain ⟨b1, b2⟩ := jo_eq (toldOf w.s).path (c := []) (fun r e => nomatch e)
    by_cases ht : tailOf w.s ≠ []
    · rw [if_pos ht]
      obtain ⟨l', g1, e1⟩ := gi_sign hg 47
      rw [← told_path g1, ← told_path hg] at e1
      have hE : ¬ EndS (toldOf w.s).path := by
        rw [told_path hg]
        rintro (e | ⟨q, e⟩)
        · exact ht (List.append_eq_nil_iff.mp e).2
        · exact WN.noend ⟨ht, hg.tail⟩ _ q e
      refine fin _ _ l' _ g1 (by simp) ?_ ?_ htt
      · rw [jall_snoc, hj, b2 hE, e1]
      · rw [e1, List.length_append]; simp; omega
    · rw [if_neg ht]
      have ht' : tailOf w.s = [] := by simpa using ht
      have hE : EndS (toldOf w.s).path := by rw [told_path hg, ht', List.append_nil]; exact hg.ends
      refine fin _ _ l _ hg (by simp) ?_ (by omega) htt
      rw [jall_snoc, hj, b1 hE, List.append_nil]
  · have hsp := split_last hne
    have htt : ∀ c : UInt8, tot (w.parts.dropLast ++ [lastP w.parts ++ [c]]) ≤ i + 1 + 1 := fun c => by
      have : tot w.parts = tot (w.parts.dropLast ++ [lastP w.parts]) := by rw [← hsp]
      rw [tot_append, tot_cons, h0] at this
      rw [tot_append, tot_cons, h0, List.length_append]; simp; omega
    have hjp : jall w.parts = jo (jall w.parts.dropLast) (lastP w.parts) := by
      rw [← jall_snoc, ← hsp]
    split
    · rename_i hc
      obtain ⟨l', g1, e1⟩ := gi_sign gi0 (sgnOf (figOf x))
      rw [← told_path g1] at e1
      have e2 : (toldOf (signS LS0 (sgnOf (figOf x)))).path = [47] := by rw [e1, hc.1]; rfl
      refine fin _ _ l' _ g1 (by simp) ?_ ?_ (htt _)
      · rw [e2, jall_snoc, hc.1, hc.2]
        unfold jo; simp
      · rw [e2]; simp
    · rename_i hc
      obtain ⟨l', g1, e1⟩ := gi_sign hg (sgnOf (figOf x))
      rw [← told_path g1, ← told_path hg] at e1
      refine fin _ _ l' _ g1 (by simp) ?_ ?_ (htt _)
      · rw [jall_snoc, jo_snoc _ _ _ hc, ← hjp, hj, e1]
      · rw [e1, List.length_append]; simp; omega
noncomputable def wA (k : Kd) (xs : List Int) (i : Nat) : WS := (xs.take i).foldl (stW k) w0
theorem wA_succ {k : Kd} {xs : List Int} {i : Nat} {x : Int} (h : xs[i]? = some x) : wA k xs (i + 1) = stW k (wA k xs i) x := by
  have : xs.take (i + 1) = xs.take i ++ [x] := by rw [List.take_add_one, h]; rfl
  unfold wA
  rw [this, List.foldl_append]; rfl
theorem wi_all (k : Kd) (xs : List Int) (hx : xs.length ≤ 20) : ∀ i, i ≤ xs.length → WI i (wA k xs i)
  | 0, _ => wi0
  | i + 1, hi => by
    have : xs[i]? = some xs[i] := List.getElem?_eq_getElem (by omega)
    rw [wA_succ this]
    exact wi_step (wi_all k xs hx i (by omega)) (by omega) k _
end Mine
end
section
open PySem PySem.W PyProof.Rows PySem.Calls PySem.SeqAt PySem.Builtin
set_option Elab.async false
set_option linter.unusedVariables false
set_option maxRecDepth 100000
namespace Mine
namespace BF
-- facts of the kind of octets
theorem slot_mul : Slot "bytes" (dunder "mul") "bytes.__mul__" :=
  .of (owner := "bytes") (n := "__mul__") (by rw [typeLookup_type, builtinLookup_eq_fast]; kernel_rfl) (by decide +kernel) (by decide +kernel) (by decide +kernel) (by first | exact .inl (by decide +kernel) | exact .inr (by decide +kernel)) (by rw [isSubtype_type]; kernel_rfl)
theorem slot_rmul : Slot "bytes" (dunderR "mul") "bytes.__rmul__" :=
  .of (owner := "bytes") (n := "__rmul__") (by rw [typeLookup_type, builtinLookup_eq_fast]; kernel_rfl) (by decide +kernel) (by decide +kernel) (by decide +kernel) (by first | exact .inl (by decide +kernel) | exact .inr (by decide +kernel)) (by rw [isSubtype_type]; kernel_rfl)
theorem slot_lt : Slot "bytes" (cmpInfo .Lt).2.1 "bytes.__lt__" :=
  .of (owner := "bytes") (n := "__lt__") (by rw [typeLookup_type, builtinLookup_eq_fast]; kernel_rfl) (by decide +kernel) (by decide +kernel) (by decide +kernel) (by first | exact .inl (by decide +kernel) | exact .inr (by decide +kernel)) (by rw [isSubtype_type]; kernel_rfl)
theorem slot_gt : Slot "bytes" (cmpInfo .Gt).2.1 "bytes.__gt__" :=
  .of (owner := "bytes") (n := "__gt__") (by rw [typeLookup_type, builtinLookup_eq_fast]; kernel_rfl) (by decide +kernel) (by decide +kernel) (by decide +kernel) (by first | exact .inl (by decide +kernel) | exact .inr (by decide +kernel)) (by rw [isSubtype_type]; kernel_rfl)
theorem slot_rfind : Slot "bytes" "rfind" "bytes.rfind" :=
  .of (owner := "bytes") (n := "rfind") (by rw [typeLookup_type, builtinLookup_eq_fast]; kernel_rfl) (by decide +kernel) (by decide +kernel) (by decide +kernel) (by first | exact .inl (by decide +kernel) | exact .inr (by decide +kernel)) (by rw [isSubtype_type]; kernel_rfl)
theorem slot_rstrip : Slot "bytes" "rstrip" "bytes.rstrip" :=
  .of (owner := "bytes") (n := "rstrip") (by rw [typeLookup_type, builtinLookup_eq_fast]; kernel_rfl) (by decide +kernel) (by decide +kernel) (by decide +kernel) (by first | exact .inl (by decide +kernel) | exact .inr (by decide +kernel)) (by rw [isSubtype_type]; kernel_rfl)
theorem slot_split : Slot "bytes" "split" "bytes.split" :=
  .of (owner := "bytes") (n := "split") (by rw [typeLookup_type, builtinLookup_eq_fast]; kernel_rfl) (by decide +kernel) (by decide +kernel) (by decide +kernel) (by first | exact .inl (by decide +kernel) | exact .inr (by decide +kernel)) (by rw [isSubtype_type]; kernel_rfl)
theorem slot_join : Slot "bytes" "join" "bytes.join" :=
  .of (owner := "bytes") (n := "join") (by rw [typeLookup_type, builtinLookup_eq_fast]; kernel_rfl) (by decide +kernel) (by decide +kernel) (by decide +kernel) (by first | exact .inl (by decide +kernel) | exact .inr (by decide +kernel)) (by rw [isSubtype_type]; kernel_rfl)
theorem type_rfind : typeOf (.builtin "bytes.rfind") = pure (.type "method_descriptor") := by show builtinType _ = _; rw [builtinType_eq_fast]; kernel_rfl
theorem type_rstrip : typeOf (.builtin "bytes.rstrip") = pure (.type "method_descriptor") := by show builtinType _ = _; rw [builtinType_eq_fast]; kernel_rfl
theorem type_split : typeOf (.builtin "bytes.split") = pure (.type "method_descriptor") := by show builtinType _ = _; rw [builtinType_eq_fast]; kernel_rfl
theorem type_join : typeOf (.builtin "bytes.join") = pure (.type "method_descriptor") := by show builtinType _ = _; rw [builtinType_eq_fast]; kernel_rfl
theorem entry_mul : entryFor table "bytes.__mul__" = some Builtin.«bytes.__mul__» := entryFor_of_tree (by kernel_rfl)
theorem entry_lt : entryFor table "bytes.__lt__" = some Builtin.«bytes.__lt__» := entryFor_of_tree (by kernel_rfl)
theorem entry_gt : entryFor table "bytes.__gt__" = some Builtin.«bytes.__gt__» := entryFor_of_tree (by kernel_rfl)
theorem entry_rfind : entryFor table "bytes.rfind" = some Builtin.«bytes.rfind» := entryFor_of_tree (by kernel_rfl)
theorem entry_rstrip : entryFor table "bytes.rstrip" = some Builtin.«bytes.rstrip» := entryFor_of_tree (by kernel_rfl)
theorem entry_split : entryFor table "bytes.split" = some Builtin.«bytes.split» := entryFor_of_tree (by kernel_rfl)
theorem entry_join : entryFor table "bytes.join" = some Builtin.«bytes.join» := entryFor_of_tree (by kernel_rfl)
theorem args_mul (a b : Value) : argsOk "bytes.__mul__" ⟨[a, b], []⟩ := by unfold argsOk; kernel_rfl
theorem args_lt (a b : Value) : argsOk "bytes.__lt__" ⟨[a, b], []⟩ := by unfold argsOk; kernel_rfl
theorem args_gt (a b : Value) : argsOk "bytes.__gt__" ⟨[a, b], []⟩ := by unfold argsOk; kernel_rfl
theorem args_rfind (a b : Value) : argsOk "bytes.rfind" ⟨[a, b], []⟩ := by unfold argsOk; kernel_rfl
theorem args_rstrip (a b : Value) : argsOk "bytes.rstrip" ⟨[a, b], []⟩ := by unfold argsOk; kernel_rfl
theorem args_split (a b : Value) : argsOk "bytes.split" ⟨[a, b], []⟩ := by unfold argsOk; kernel_rfl
theorem args_join (a b : Value) : argsOk "bytes.join" ⟨[a, b], []⟩ := by unfold argsOk; kernel_rfl
theorem l_buffer : typeLookup (.type "bytes") "__buffer__" = pure (some (.builtin "bytes.__buffer__")) := by rw [typeLookup_type, builtinLookup_eq_fast]; kernel_rfl
theorem l_release : typeLookup (.type "bytes") "__release_buffer__" = pure none := by rw [typeLookup_type, builtinLookup_eq_fast]; kernel_rfl
theorem l_radd : typeLookup (.type "bytes") (dunderR "add") = pure none := by rw [typeLookup_type, builtinLookup_eq_fast]; kernel_rfl
theorem l_iadd : typeLookup (.type "bytes") (dunderI "add") = pure none := by rw [typeLookup_type, builtinLookup_eq_fast]; kernel_rfl
theorem sub_tuple : isSubtype (.type "bytes") (.type "tuple") = pure false := by rw [isSubtype_type]; kernel_rfl
theorem nofill_add : fillsNumberSlot (.type "bytes") "add" = pure false := PySem.fillsNumberSlot_seq (id := "bytes.__add__") (r := none) FB.slot_bytes_add.lookup (by decide +kernel) l_radd rfl
theorem seq_add : seqSlot? (.type "bytes") "__add__" = pure (some (.builtin "bytes.__add__")) := PySem.seqSlot_of FB.slot_bytes_add.lookup (by decide +kernel)
theorem nofill_mul : fillsNumberSlot (.type "bytes") "mul" = pure false := PySem.fillsNumberSlot_seq (id := "bytes.__mul__") (r := some (.builtin "bytes.__rmul__")) slot_mul.lookup (by decide +kernel) slot_rmul.lookup (by decide +kernel)
theorem rep_mul : seqRepeat? (.type "bytes") = pure (some (.builtin "bytes.__mul__")) := by
  unfold seqRepeat?
  rw [PySem.seqSlot_of (T := "bytes") (name := "__mul__") (id := "bytes.__mul__") slot_mul.lookup (by decide +kernel), PySem.seqSlot_of (T := "bytes") (name := "__rmul__") (id := "bytes.__rmul__") slot_rmul.lookup (by decide +kernel)]
  rfl

section
variable {b c : Array UInt8} {t u : Tok}
theorem sp {name : Str} {r : Option Value} (h : typeLookup (.type "bytes") name = pure r) : specialOf (.bytes b t) name = pure r := h
theorem inst_b : isInstance (.bytes b t) (.type "bytes") = pure true := F.sub_bytes_bytes
theorem own_b : Bytes.slotIsOwn (.bytes b t) "__buffer__" = pure true := by
  have cut : ∀ x : String, x = "bytes" → isInstance (.bytes b t) (.type x) = pure true := by rintro _ rfl; exact inst_b
  unfold Bytes.slotIsOwn
  rw [sp l_buffer]
  simp only [pure_bind]
  split
  · rename_i hx; exact absurd hx (by decide +kernel)
  · exact cut _ (by decide +kernel)
theorem own_r : Bytes.ownRelease (.bytes b t) = pure false := by
  unfold Bytes.ownRelease Bytes.slotIsOwn
  rw [sp l_release]; rfl
theorem buf {id : String} {f : Bool} : Bytes.buffer? id (.bytes b t) f = pure (some b) := by
  unfold Bytes.buffer?
  rw [sp l_buffer, own_b, own_r]
  kernel_rfl
theorem bufq {id : String} : Bytes.bufferQuiet? id (.bytes b t) = pure (some b) := by
  unfold Bytes.bufferQuiet?
  rw [buf]; rfl
theorem take {id : String} : Bytes.takeBuffer? id (.bytes b t) 0 = pure (some (b, none)) := by
  unfold Bytes.takeBuffer?
  rw [sp l_buffer, own_b, buf]
  kernel_rfl
theorem takeq {id : String} : Bytes.takeBufferQuiet? id (.bytes b t) 0 = pure (some (b, none)) := by
  unfold Bytes.takeBufferQuiet?
  rw [take]; rfl
theorem like {id : String} : Bytes.bytesLike id (.bytes b t) = pure b := by
  unfold Bytes.bytesLike
  rw [buf]; rfl
theorem short {n : Nat} (h : n ≤ 16777216) : Bytes.tooLong n = false := by
  unfold Bytes.tooLong
  rw [sizeLine_eq]
  exact decide_eq_false (by omega)
end
end BF
end Mine
end
section
open PySem PySem.W PyProof.Rows PySem.Calls PySem.SeqAt PySem.Builtin
set_option Elab.async false
set_option linter.unusedVariables false
namespace Mine
namespace BF
section
variable {b c : Array UInt8} {t u : Tok}
/-- octets, made or handed on -/
noncomputable def GB (r : Array UInt8) : PySem.Spec := fun _ R s => ∀ t' k, R (.ok (.ret (.bytes r t'))) { s with toks := k }
noncomputable def GV (v : Value) : PySem.Spec := fun _ R s => R (.ok (.ret v)) s
theorem ite_n {c : Prop} [Decidable c] {X Y : Prop} (hc : ¬ c) (h : Y) : if c then X else Y := by rw [if_neg hc]; exact h
theorem ite_y {c : Prop} [Decidable c] {X Y : Prop} (hc : c) (h : X) : if c then X else Y := by rw [if_pos hc]; exact h
theorem m_add (hz : b.size + c.size ≤ 16777216) : Meets («bytes.__add__» ⟨[.bytes b t, .bytes c u], []⟩) (GB (b ++ c)) := .of_wp fun prog w A R s h => by
  show wpAny _ _ (Bytes.buffer? "bytes.__add__" (.bytes b t) >>= fun r => _) _ _ s
  refine wpAny_bind (wpAny_of_eq buf ?_)
  show wpAny _ _ (Bytes.bufferQuiet? "bytes.__add__" (.bytes c u) >>= fun r => _) _ _ s
  refine wpAny_bind (wpAny_of_eq bufq ?_)
  show wpAny _ _ (if b.isEmpty = true then _ else _) _ _ s
  refine wpAny_ite ?_
  split
  · rename_i hb
    have e : b = #[] := Array.isEmpty_iff.1 hb
    subst e
    have h' := h u s.toks
    rw [Array.empty_append] at h'
    exact wpAny_bind (wpAny_typeOf (typeIs_bytes s c u) (wpAny_bind (wpAny_rule (wpAny_pure ⟨_, rfl, h'⟩))))
  · show wpAny _ _ (if c.isEmpty = true then _ else _) _ _ s
    refine wpAny_ite ?_
    split
    · rename_i hc
      have e : c = #[] := Array.isEmpty_iff.1 hc
      subst e
      have h' := h t s.toks
      rw [Array.append_empty] at h'
      exact wpAny_bind (wpAny_typeOf (typeIs_bytes s b t) (wpAny_bind (wpAny_rule (wpAny_pure ⟨_, rfl, h'⟩))))
    · show wpAny _ _ (if Bytes.tooLong (b.size + c.size) = true then _ else _) _ _ s
      refine wpAny_ite (ite_n (by rw [short hz]; exact Bool.false_ne_true) ?_)
      exact wpAny_bind (wpAny_mkBytes (wpAny_pure ⟨_, rfl, h _ _⟩) (by rw [Array.size_append, sizeLine_eq]; exact hz))
theorem m_lt : Meets («bytes.__lt__» ⟨[.bytes b t, .bytes c u], []⟩) (GV (.bool (Bytes.order b.toList c.toList == .lt))) := .of_wp fun prog w A R s h => by
  show wpAny _ _ (isInstance (.bytes c u) (.type "bytes") >>= fun r => _) _ _ s
  exact wpAny_bind (wpAny_isInstance (typeIs_bytes s c u) F.sub_bytes_bytes (wpAny_pure ⟨_, rfl, h⟩))
theorem m_gt : Meets («bytes.__gt__» ⟨[.bytes b t, .bytes c u], []⟩) (GV (.bool (Bytes.order b.toList c.toList == .gt))) := .of_wp fun prog w A R s h => by
  show wpAny _ _ (isInstance (.bytes c u) (.type "bytes") >>= fun r => _) _ _ s
  exact wpAny_bind (wpAny_isInstance (typeIs_bytes s c u) F.sub_bytes_bytes (wpAny_pure ⟨_, rfl, h⟩))
theorem order_lt : ∀ a b : List UInt8, (Bytes.order a b == .lt) = decide (a.map UInt8.toNat < b.map UInt8.toNat)
  | [], [] => by decide
  | [], y :: ys => by
    have : ([] : List Nat) < (y :: ys).map UInt8.toNat := List.nil_lt_cons _ _
    rw [show ([] : List UInt8).map UInt8.toNat = [] from rfl, decide_eq_true this]; rfl
  | x :: xs, [] => by
    have : ¬ ((x :: xs).map UInt8.toNat < ([] : List Nat)) := List.not_lt_nil _
    rw [show ([] : List UInt8).map UInt8.toNat = [] from rfl, decide_eq_false this]; rfl
  | x :: xs, y :: ys => by
    have ih := order_lt xs ys
    have e : ((x :: xs).map UInt8.toNat < (y :: ys).map UInt8.toNat) ↔ x.toNat < y.toNat ∨ x.toNat = y.toNat ∧ xs.map UInt8.toNat < ys.map UInt8.toNat := by
      rw [List.map_cons, List.map_cons]; exact List.cons_lt_cons_iff
    unfold Bytes.order
    by_cases h1 : x < y
    · have h1' : x.toNat < y.toNat := h1
      rw [if_pos h1, decide_eq_true (e.mpr (.inl h1'))]; rfl
    · rw [if_neg h1]
      have h1' : ¬ x.toNat < y.toNat := h1
      by_cases h2 : x > y
      · have h2' : y.toNat < x.toNat := h2
        rw [if_pos h2, decide_eq_false (fun z => by rcases e.mp z with z | z <;> omega)]; rfl
      · have h2' : ¬ y.toNat < x.toNat := h2
        rw [if_neg h2, ih]
        have : x.toNat = y.toNat := by omega
        exact decide_eq_decide.mpr ⟨fun z => e.mpr (.inr ⟨this, z⟩), fun z => (e.mp z).elim (fun z => by omega) (·.2)⟩
theorem order_swap : ∀ a b : List UInt8, (Bytes.order a b == .gt) = (Bytes.order b a == .lt)
  | [], [] => rfl
  | [], y :: ys => rfl
  | x :: xs, [] => rfl
  | x :: xs, y :: ys => by
    have ih := order_swap xs ys
    unfold Bytes.order
    by_cases h1 : x < y
    · have h2 : ¬ y < x := fun z => by have a : x.toNat < y.toNat := h1; have b : y.toNat < x.toNat := z; omega
      rw [if_pos h1, if_neg h2, if_pos (show y > x from h1)]; rfl
    · by_cases h2 : y < x
      · rw [if_neg h1, if_pos h2, if_pos (show x > y from h2)]; rfl
      · rw [if_neg h1, if_neg h2, if_neg (show ¬ x > y from h2), if_neg (show ¬ y > x from h1), ih]
theorem rep_arr (l : List UInt8) : ∀ (m : Nat) (acc : Array UInt8), ((List.replicate m l.toArray).foldl (· ++ ·) acc).toList = acc.toList ++ (List.replicate m l).flatten
  | 0, acc => by simp
  | m + 1, acc => by
    rw [List.replicate_succ, List.foldl_cons, rep_arr l m, List.replicate_succ, List.flatten_cons]
    simp
theorem repeated_eq {l : List UInt8} (hl : l ≠ []) (m : Nat) : Bytes.repeated l.toArray m = (rep m l).toArray := by
  unfold Bytes.repeated
  rw [if_neg (by simpa using hl)]
  apply Array.toList_inj.mp
  rw [rep_arr]; simp [rep]
theorem ra_mul {l : Array UInt8} {n : Int} (hf : Bytes.fitsIndex n = true) : Bytes.repeatArgs .bytes "__mul__" ⟨[.bytes l t, .int n u], []⟩ = pure (.bytes l t, n) := by
  have e : ∃ g, Bytes.repeatArgs .bytes "__mul__" ⟨[.bytes l t, .int n u], []⟩ = (if (!Bytes.fitsIndex n) = true then g else pure (.bytes l t, n)) := ⟨_, rfl⟩
  obtain ⟨g, e⟩ := e
  rw [e, if_neg (by rw [hf]; decide)]
theorem mul_eq {l : Array UInt8} {n : Int} (hf : Bytes.fitsIndex n = true) : ∃ g, «bytes.__mul__» ⟨[.bytes l t, .int n u], []⟩ = (if l.size * n.toNat ≥ 2 ^ 63 then g else
    if l.size * n.toNat == l.size then (do rule "bytes.__mul__.unchanged"; ret (.bytes l t)) else if Bytes.tooLong (l.size * n.toNat) then unsupported s!"bytes.__mul__:memory" else do ret (← mkBytes (Bytes.repeated l n.toNat))) := by
  unfold «bytes.__mul__»
  show ∃ g, (Bytes.repeatArgs .bytes "__mul__" ⟨[.bytes l t, .int n u], []⟩ >>= _) = _
  rw [ra_mul hf]
  exact ⟨_, rfl⟩
set_option maxRecDepth 100000
theorem m_mul {B : Builtin} (hB : B = «bytes.__mul__») {l : List UInt8} {m : Nat} (ha : l ≠ []) (ha' : l.length ≤ 16) (hm : m ≤ 1048576) : Meets (B ⟨[.bytes l.toArray t, .int (m : Int) u], []⟩) (GB (rep m l).toArray) := by
  have hsz : l.length * m ≤ 16 * 1048576 := Nat.mul_le_mul ha' hm
  have hlen : (rep m l).length = l.length * m := by simp [rep, Nat.mul_comm]
  have hs : l.toArray.size * (m : Int).toNat = l.length * m := by rw [List.size_toArray, Int.toNat_natCast]
  have hf : Bytes.fitsIndex (m : Int) = true := by
    simp only [Bytes.fitsIndex, Bool.and_eq_true, decide_eq_true_eq]; omega
  obtain ⟨g, e⟩ := mul_eq (l := l.toArray) (t := t) (u := u) hf
  rw [hB, e, hs, if_neg (by omega), short hsz]
  generalize hc : (l.length * m == l.toArray.size) = c
  refine .of_wp fun prog w A R s h => ?_
  cases c with
  | true =>
    rw [if_pos rfl]
    have he : l.length * m = l.length := by simpa using hc
    have hm1 : m = 1 := by
      have hp : 0 < l.length := List.length_pos_iff.mpr ha
      have h2 : l.length * m = l.length * 1 := by omega
      exact Nat.eq_of_mul_eq_mul_left hp h2
    subst hm1
    have e : rep 1 l = l := by simp [rep]
    rw [e] at h
    exact wpAny_bind (wpAny_rule (wpAny_pure ⟨_, rfl, h t s.toks⟩))
  | false =>
    rw [if_neg (by decide), if_neg (by decide), Int.toNat_natCast, repeated_eq ha]
    exact wpAny_bind (wpAny_mkBytes (wpAny_pure ⟨_, rfl, h _ _⟩) (by rw [List.size_toArray, sizeLine_eq, hlen]; exact hsz))
theorem ex_mul : ∃ B : Builtin, B = «bytes.__mul__» ∧ entryFor table "bytes.__mul__" = some B := ⟨_, rfl, entry_mul⟩
theorem g_rmul (n : Int) : Gives (Builtin.«int.__rmul__» ⟨[.int n u, .bytes b t], []⟩) (.val .notImplemented) := by
  show Gives (do rule "int.binary.not-an-int"; ret .notImplemented) _
  exact .rule (.of_eq rfl)
end
end BF
end Mine
end
section
open PySem PySem.W PyProof.Rows PySem.Calls PySem.SeqAt PySem.Builtin
set_option Elab.async false
set_option linter.unusedVariables false
namespace Mine
namespace BF
section
variable {b c : Array UInt8} {t u : Tok}
theorem sliced_eq (l : List UInt8) (lo hi : Option Int) : Bytes.sliced l.toArray ((lo.elim 0 (clipAt l.length) : Nat) : Int) ((hi.elim l.length (clipAt l.length) : Nat) : Int) 1 = (psl l lo hi).toArray := by
  unfold Bytes.sliced psl
  simp only [sliceRange_one, pick_run]
set_option maxRecDepth 100000
theorem m_slice {l : List UInt8} {a : Addr} {vl vu : Value} {lo hi : Option Int} (hz : l.length ≤ 16777216) (hl : IsPart vl lo) (hu : IsPart vu hi) :
    Meets («bytes.__getitem__» ⟨[.bytes l.toArray t, .ref a], []⟩) (fun A R s => s.heap.IsSliceOf a vl vu .none ∧ GB (psl l lo hi).toArray A R s) := by
  refine .of_wp fun prog w A R s hS => ?_
  obtain ⟨⟨o, ho, hc, hd⟩, h⟩ := hS
  have hT : s.TypeIs (.ref a) "slice" := ⟨o, ho, hc⟩
  show wpAny _ _ (Bytes.payload (.bytes l.toArray t) >>= fun r => _) _ _ s
  refine wpAny_bind (wpAny_of_eq (a := l.toArray) rfl ?_)
  show wpAny _ _ (Bytes.subscript? (.ref a) >>= fun r => _) _ _ s
  refine wpAny_bind ?_
  unfold Bytes.subscript?
  refine wpAny_bind (wpAny_specialOf hT slice_no_index (wpAny_pure ?_))
  refine wpAny_bind (wpAny_typeOf hT ?_)
  show wpAny _ _ (Bytes.sliceParts (.ref a) >>= fun r => _) _ _ s
  refine wpAny_bind ?_
  unfold Bytes.sliceParts
  extract_lets part
  have hp : ∀ (v : Value) (i : Option Int) (Q : Value → Shared → Prop), IsPart v i → Q (rawPart i) s → wpAny (model prog w) A.in1 (part v) Q (fun e s' => R (.error e) s') s := by
    intro v i Q h q
    cases h with
    | none => exact wpAny_of_eq (a := Value.none) rfl q
    | int k t =>
      show wpAny _ _ (if (Value.int k t == Value.none) = true then _ else _) _ _ s
      refine wpAny_ite (ite_n (show ¬ ((Value.int k t == Value.none) = true) from Bool.false_ne_true) ?_)
      refine wpAny_bind (wpAny_specialOf (T := "int") (typeIs_int _ _ _) F.slot_int_index.lookup ?_)
      refine wpAny_ite (ite_n (show ¬ (Option.isNone (some _) = true) from Bool.false_ne_true) ?_)
      exact wpAny_bind (wpAny_of_eq rfl (wpAny_pure q))
  clear_value part
  refine wpAny_bind (wpAny_field (x := .none) ho hd rfl ?_)
  refine wpAny_bind (hp .none none _ .none ?_)
  refine wpAny_ite (ite_n (show ¬ ((Value.none == rawInt 0) = true) from Bool.false_ne_true) ?_)
  refine wpAny_bind (wpAny_field (x := vl) ho hd rfl ?_)
  refine wpAny_bind (hp vl lo _ hl ?_)
  refine wpAny_bind (wpAny_field (x := vu) ho hd rfl ?_)
  refine wpAny_bind (hp vu hi _ hu ?_)
  refine wpAny_pure ?_
  have go : wpAny (model prog w) A.in1 (sliceIndices (rawPart lo) (rawPart hi) (rawPart none) l.toArray.size) (fun r s' => r = sliceBounds lo hi none l.length ∧ s' = s) (fun _ _ => False) s :=
    wpAny_of_eq (sliceIndices_raw lo hi none l.toArray.size (fun e => nomatch e)) ⟨rfl, rfl⟩
  refine wpAny_bind (wpAny_mono go (fun r s' hr => ?_) fun _ _ e => e.elim)
  obtain ⟨hr, rfl⟩ := hr
  obtain ⟨r1, r2, r3⟩ := r
  rw [sliceBounds_plain] at hr
  injection hr with h1 hr
  injection hr with h2 h3
  have e2 := sliced_eq l
  refine wpAny_ite ?_
  split
  · rename_i hw
    simp only [Bool.and_eq_true, beq_iff_eq] at hw
    obtain ⟨⟨⟨w1, w2⟩, w3⟩, _⟩ := hw
    refine wpAny_bind (wpAny_typeOf (typeIs_bytes _ _ t) ?_)
    refine wpAny_ite (ite_y rfl ?_)
    refine wpAny_bind (wpAny_rule (wpAny_pure ⟨_, rfl, ?_⟩))
    have h' := h t s'.toks
    rw [h1] at w1
    rw [h2, List.size_toArray] at w3
    rw [psl_full (by unfold psl; rw [List.length_take, List.length_drop]; omega)] at h'
    exact h'
  · rw [h1, h2, h3, e2]
    exact wpAny_bind (wpAny_mkBytes (wpAny_pure ⟨_, rfl, h _ _⟩) (by rw [List.size_toArray, sizeLine_eq]; exact Nat.le_trans (psl_length l _ _) hz))
end
end BF
theorem slct_b {g : Glo} : SlcT g .b := fun P δ A s Q v vl vu a l lo hi hv pl pu hsl hz h => by
  obtain ⟨t, rfl⟩ := hv.tells
  exact getItem_meets (typeIs_bytes _ _ _) (by decide) FB.slot_bytes_getitem FB.entry_bytes_getitem (FB.args_bytes_getitem_2 _ _) (BF.m_slice hz pl pu) ⟨hsl, fun t' k => h _ k (.bytes _ _)⟩
end Mine
end
section
open PySem PySem.W PyProof.Rows PySem.Calls PySem.SeqAt PySem.Builtin
set_option Elab.async false
set_option linter.unusedVariables false
namespace Mine
namespace BF
section
variable {b c : Array UInt8} {t u : Tok}
theorem window_none (n : Nat) : Bytes.window n none none = (0, (n : Int)) := by
  unfold Bytes.window
  have h : ¬ (n : Int) < 0 := by omega
  simp [h]
theorem ext_one (l : List UInt8) (c : UInt8) (i : Nat) : (l.toArray.extract i (i + 1) == #[c]) = (l[i]? == some c) := by
  rw [List.extract_toArray]
  show ((l.extract i (i + 1)).toArray == [c].toArray) = _
  have e : l.extract i (i + 1) = (l.drop i).take 1 := by unfold List.extract; rw [Nat.add_sub_cancel_left]
  rw [e]
  have e2 : l[i]? = (l.drop i)[0]? := by rw [List.getElem?_drop]; rfl
  rw [e2]
  cases l.drop i with
  | nil => simp
  | cons x r => simp
theorem find_last (p : Nat → Bool) : ∀ n i : Nat, i < n → p i = true → (∀ j, i < j → j < n → p j = false) → (List.range n).reverse.find? p = some i
  | n + 1, i, hi, hp, hj => by
    rw [List.range_succ, List.reverse_append]
    show List.find? p (n :: (List.range n).reverse) = _
    rw [List.find?_cons]
    by_cases e : i = n
    · subst e; rw [hp]
    · rw [hj n (by omega) (by omega)]
      exact find_last p n i (by omega) hp fun j a b => hj j a (by omega)
theorem find_none (p : Nat → Bool) : ∀ n : Nat, (∀ j, j < n → p j = false) → (List.range n).reverse.find? p = none := fun n h => by
  rw [List.find?_eq_none]
  intro x hx
  rw [List.mem_reverse, List.mem_range] at hx
  rw [h x hx]; decide
theorem rfind_eq (l : List UInt8) (c : UInt8) : (match (if (l.toArray.size : Int) - 0 < 1 then none else some ((0 : Int).toNat, (l.toArray.size : Int).toNat)).bind (fun x => Bytes.rfind? l.toArray #[c] x.1 x.2) with | some i => (i : Int) | none => -1) = (aft c l : Int) - 1 := by
  have hr : Bytes.rfind? l.toArray #[c] 0 l.length = (List.range l.length).reverse.find? (fun i => l[i]? == some c) := by
    unfold Bytes.rfind?
    have e1 : l.length + 1 - (0 + (#[c] : Array UInt8).size) = l.length := by simp
    have e2 : (List.range l.length).map (· + 0) = List.range l.length := by simp
    rw [e1, e2]
    congr 1
    funext i
    exact ext_one l c i
  rw [List.size_toArray]
  by_cases h0 : (l.length : Int) - 0 < 1
  · have : l = [] := List.length_eq_zero_iff.mp (by omega)
    subst this
    rw [if_pos h0]; rfl
  · rw [if_neg h0]
    show (match Bytes.rfind? l.toArray #[c] 0 ((l.length : Int).toNat) with | some i => (i : Int) | none => -1) = _
    rw [Int.toNat_natCast, hr]
    rcases aft_spec c l with ⟨h1, h2⟩ | ⟨a, b, rfl, hb, h2⟩
    · rw [find_none _ _ (fun j hj => ?_), h2]
      · rfl
      · rw [beq_eq_false_iff_ne]
        intro e
        exact h1 (List.mem_of_getElem? e)
    · rw [find_last _ _ a.length (by simp) (by simp) (fun j h1 h3 => ?_), h2]
      · show (a.length : Int) = _; omega
      · rw [beq_eq_false_iff_ne]
        intro e
        rw [List.getElem?_append_right (by omega)] at e
        have : (c :: b)[j - a.length]? = b[j - a.length - 1]? := by
          have e3 : j - a.length = (j - a.length - 1) + 1 := by omega
          rw [e3, List.getElem?_cons_succ]; rfl
        rw [this] at e
        exact hb (List.mem_of_getElem? e)
set_option maxRecDepth 100000
theorem m_starts {l : List UInt8} {c : UInt8} : Meets («bytes.startswith» ⟨[.bytes l.toArray t, .bytes [c].toArray u], []⟩) (GV (.bool (l.head? == some c))) := by
  refine .of_wp fun prog w A R s h => ?_
  show wpAny _ _ (Bytes.bound? _ >>= fun r => _) _ _ s
  refine wpAny_bind (wpAny_of_eq (a := none) rfl ?_)
  refine wpAny_bind (wpAny_of_eq (a := none) rfl ?_)
  refine wpAny_bind (wpAny_of_eq (a := l.toArray) rfl ?_)
  rw [window_none]
  refine wpAny_bind (wpAny_isInstance (typeIs_bytes s _ u) sub_tuple ?_)
  show wpAny _ _ (Bytes.buffer? _ (.bytes [c].toArray u) >>= fun r => _) _ _ s
  refine wpAny_bind (wpAny_of_eq buf (wpAny_pure ⟨_, rfl, ?_⟩))
  have e : (if ((l.toArray.size : Int) - 0 < ([c].toArray.size : Nat)) then false else if false = true then l.toArray.extract ((l.toArray.size : Int).toNat - [c].toArray.size) (l.toArray.size : Int).toNat == [c].toArray else l.toArray.extract (0 : Int).toNat ((0 : Int).toNat + [c].toArray.size) == [c].toArray) = (l.head? == some c) := by
    by_cases h0 : l = []
    · subst h0; rfl
    · have hp : 0 < l.length := List.length_pos_iff.mpr h0
      rw [if_neg (by simp; omega), if_neg (by decide)]
      show (l.toArray.extract 0 (0 + 1) == #[c]) = _
      rw [ext_one, List.head?_eq_getElem?]
  rw [← e] at h
  exact h
theorem m_ends {l : List UInt8} {c : UInt8} : Meets («bytes.endswith» ⟨[.bytes l.toArray t, .bytes [c].toArray u], []⟩) (GV (.bool (l.getLast? == some c))) := by
  refine .of_wp fun prog w A R s h => ?_
  show wpAny _ _ (Bytes.bound? _ >>= fun r => _) _ _ s
  refine wpAny_bind (wpAny_of_eq (a := none) rfl ?_)
  refine wpAny_bind (wpAny_of_eq (a := none) rfl ?_)
  refine wpAny_bind (wpAny_of_eq (a := l.toArray) rfl ?_)
  rw [window_none]
  refine wpAny_bind (wpAny_isInstance (typeIs_bytes s _ u) sub_tuple ?_)
  show wpAny _ _ (Bytes.buffer? _ (.bytes [c].toArray u) >>= fun r => _) _ _ s
  refine wpAny_bind (wpAny_of_eq buf (wpAny_pure ⟨_, rfl, ?_⟩))
  have e : (if ((l.toArray.size : Int) - 0 < ([c].toArray.size : Nat)) then false else if true = true then l.toArray.extract ((l.toArray.size : Int).toNat - [c].toArray.size) (l.toArray.size : Int).toNat == [c].toArray else l.toArray.extract (0 : Int).toNat ((0 : Int).toNat + [c].toArray.size) == [c].toArray) = (l.getLast? == some c) := by
    by_cases h0 : l = []
    · subst h0; rfl
    · have hp : 0 < l.length := List.length_pos_iff.mpr h0
      rw [if_neg (by simp; omega), if_pos (by decide)]
      have e1 : (l.toArray.size : Int).toNat = l.length - 1 + 1 := by simp; omega
      rw [e1]
      show (l.toArray.extract (l.length - 1 + 1 - 1) (l.length - 1 + 1) == #[c]) = _
      rw [Nat.add_sub_cancel, ext_one, List.getLast?_eq_getElem?]
  rw [← e] at h
  exact h
theorem m_rfind {l : List UInt8} {c : UInt8} : Meets («bytes.rfind» ⟨[.bytes l.toArray t, .bytes [c].toArray u], []⟩) (fun _ R s => ∀ t' k, R (.ok (.ret (.int ((aft c l : Int) - 1) t'))) { s with toks := k }) := by
  refine .of_wp fun prog w A R s h => ?_
  show wpAny _ _ (Bytes.searchArgs .bytes "rfind" ⟨[.bytes l.toArray t, .bytes [c].toArray u], []⟩ >>= fun r => _) _ _ s
  refine wpAny_bind ?_
  show wpAny _ _ (Bytes.buffer? _ (.bytes [c].toArray u) >>= fun r => _) _ _ s
  refine wpAny_bind (wpAny_of_eq buf ?_)
  show wpAny _ _ (pure #[c] >>= fun r => _) _ _ s
  refine wpAny_bind (wpAny_pure ?_)
  refine wpAny_bind (wpAny_of_eq (a := l.toArray) rfl ?_)
  rw [window_none]
  refine wpAny_pure ?_
  have e := rfind_eq l c
  show wpAny _ _ (match (if (l.toArray.size : Int) - 0 < 1 then none else some ((0 : Int).toNat, (l.toArray.size : Int).toNat)).bind (fun x => Bytes.rfind? l.toArray #[c] x.1 x.2) with | some i => _ | none => _) _ _ s
  generalize (if (l.toArray.size : Int) - 0 < 1 then none else some ((0 : Int).toNat, (l.toArray.size : Int).toNat)).bind (fun x => Bytes.rfind? l.toArray #[c] x.1 x.2) = o at e ⊢
  rw [← e] at h
  cases o with
  | some i => exact wpAny_bind (wpAny_mkInt (wpAny_pure ⟨_, rfl, h _ _⟩))
  | none => exact wpAny_bind (wpAny_rule (wpAny_bind (wpAny_mkInt (wpAny_pure ⟨_, rfl, h _ _⟩))))
theorem m_rstrip {l : List UInt8} {c : UInt8} (hz : l.length ≤ 16777216) : Meets («bytes.rstrip» ⟨[.bytes l.toArray t, .bytes [c].toArray u], []⟩) (GB (rst c l).toArray) := by
  refine .of_wp fun prog w A R s h => ?_
  show wpAny _ _ (Bytes.bytesLike _ (.bytes [c].toArray u) >>= fun r => _) _ _ s
  refine wpAny_bind (wpAny_of_eq like ?_)
  refine wpAny_bind (wpAny_pure ?_)
  refine wpAny_bind (wpAny_of_eq (a := l.toArray) rfl ?_)
  have ec : ([c].toArray : Array UInt8).contains = (· == c) := by funext x; simp; rfl
  rw [ec]
  show wpAny _ _ (if ((rst c l).length == l.toArray.size) = true then _ else _) _ _ s
  have hl : (rst c l).length ≤ l.length := by
    unfold rst
    have := (List.dropWhile_sublist (fun x => x == c) (l := l.reverse)).length_le
    simp at this ⊢; exact this
  refine wpAny_ite ?_
  split
  · rename_i hw
    have hw : (rst c l).length = l.length := by simpa using hw
    have e : rst c l = l := by
      unfold rst at hw ⊢
      have := (List.dropWhile_sublist (fun x => x == c) (l := l.reverse)).eq_of_length (by simpa using hw)
      rw [this, List.reverse_reverse]
    rw [e] at h
    refine wpAny_bind (wpAny_rule ?_)
    refine wpAny_bind (wpAny_of_eq (a := .bytes l.toArray t) rfl ?_)
    exact wpAny_pure ⟨_, rfl, h t s.toks⟩
  · exact wpAny_bind (wpAny_mkBytes (wpAny_pure ⟨_, rfl, h _ _⟩) (by rw [List.size_toArray, sizeLine_eq]; exact Nat.le_trans hl hz))
end
end BF
end Mine
end
section
open PySem PySem.W PyProof.Rows PySem.Calls PySem.SeqAt PySem.Builtin
set_option Elab.async false
set_option linter.unusedVariables false
namespace Mine
namespace BF
-- octets cut and glued
theorem occ_fold (l : List UInt8) (c : UInt8) (f : List Nat × Nat → Nat → List Nat × Nat) (hf : f = fun acc i => if (i ≥ acc.2 && l.toArray.extract i (i + (#[c] : Array UInt8).size) == #[c]) = true then (i :: acc.1, i + (#[c] : Array UInt8).size) else acc) : ∀ n : Nat, ∃ m, m ≤ n ∧ (List.range n).foldl f ([], 0) = (((List.range n).filter fun i => l[i]? == some c).reverse, m)
  | 0 => ⟨0, Nat.le_refl _, rfl⟩
  | n + 1 => by
    obtain ⟨m, hm, e⟩ := occ_fold l c f hf n
    rw [List.range_succ, List.foldl_append, e, List.filter_append, List.foldl_cons, List.foldl_nil, hf]
    have h1 : (#[c] : Array UInt8).size = 1 := rfl
    have h2 : decide (n ≥ m) = true := decide_eq_true hm
    simp only [h1, h2, Bool.true_and, ext_one]
    by_cases hc : (l[n]? == some c) = true
    · rw [if_pos hc]
      refine ⟨n + 1, Nat.le_refl _, ?_⟩
      rw [List.filter_cons_of_pos (p := fun i => l[i]? == some c) hc, List.reverse_append]; rfl
    · rw [if_neg hc]
      refine ⟨m, by omega, ?_⟩
      rw [List.filter_cons_of_neg (p := fun i => l[i]? == some c) hc]; simp
theorem occ_eq (l : List UInt8) (c : UInt8) : Bytes.occurrences l.toArray #[c] 0 l.length = (List.range l.length).filter fun i => l[i]? == some c := by
  have e1 : l.length + 1 - (0 + (#[c] : Array UInt8).size) = l.length := by simp
  have e2 : (List.range l.length).map (· + 0) = List.range l.length := by simp
  obtain ⟨m, _, e⟩ := occ_fold l c _ rfl l.length
  unfold Bytes.occurrences
  rw [e1, e2]
  show ((List.range l.length).foldl _ ([], 0)).1.reverse = _
  rw [e]
  exact List.reverse_reverse _
noncomputable def gluP (pre : List UInt8) : List (List UInt8) → List (List UInt8)
  | [] => []
  | p :: q => (pre ++ p) :: q
theorem ext_take (l : List UInt8) (a b : Nat) : l.toArray.extract a b = ((l.drop a).take (b - a)).toArray := by
  rw [List.extract_toArray]
theorem gluP_cons (pre p : List UInt8) (q : List (List UInt8)) : gluP pre (p :: q) = (pre ++ p) :: q := rfl
theorem btw (l : List UInt8) (c : UInt8) (f : Array (Array UInt8) × Nat → Nat → Array (Array UInt8) × Nat) (hf : f = fun x p => (x.1.push (l.toArray.extract x.2 p), p + 1)) :
    ∀ (r : List UInt8) (k : Nat), r = l.drop k → ∀ (parts : Array (Array UInt8)) (last : Nat), last ≤ k →
      ((((List.range' k r.length).filter fun i => l[i]? == some c).foldl f (parts, last)).1.push (l.toArray.extract (((List.range' k r.length).filter fun i => l[i]? == some c).foldl f (parts, last)).2 l.toArray.size)).toList
        = parts.toList ++ (gluP ((l.drop last).take (k - last)) (spl c r)).map List.toArray
  | [], k, hr, parts, last, hl => by
    have hk : l.length ≤ k := by
      have := congrArg List.length hr
      rw [List.length_drop] at this
      simp only [List.length_nil] at this; omega
    rw [show ((List.range' k ([] : List UInt8).length).filter fun i => l[i]? == some c) = [] from rfl, List.foldl_nil]
    show (parts.push _).toList = _
    rw [Array.toList_push, ext_take, List.size_toArray, show spl c [] = [[]] from rfl]
    show parts.toList ++ [((l.drop last).take (l.length - last)).toArray] = parts.toList ++ [((l.drop last).take (k - last) ++ []).toArray]
    rw [List.append_nil, List.take_of_length_le (by rw [List.length_drop]; omega), List.take_of_length_le (by rw [List.length_drop]; omega)]
  | x :: r, k, hr, parts, last, hl => by
    have hk : l[k]? = some x := by
      have := congrArg (fun z => z[0]?) hr
      simp at this; exact this.symm
    have hr' : r = l.drop (k + 1) := by
      have := congrArg List.tail hr
      rw [List.tail_drop] at this
      exact this
    have hlt := (List.getElem?_eq_some_iff.mp hk).1
    rw [List.length_cons, List.range'_succ]
    have hstep : (l.drop last).take (k + 1 - last) = (l.drop last).take (k - last) ++ [x] := by
      have e3 : k + 1 - last = (k - last) + 1 := by omega
      rw [e3, List.take_add_one, List.getElem?_drop, show last + (k - last) = k by omega, hk]; rfl
    by_cases hc : x = c
    · have hp : (l[k]? == some c) = true := by rw [hk, hc]; exact beq_self_eq_true _
      rw [List.filter_cons_of_pos (p := fun i => l[i]? == some c) hp, List.foldl_cons]
      have e1 : f (parts, last) k = (parts.push (l.toArray.extract last k), k + 1) := by rw [hf]
      rw [e1, btw l c f hf r (k + 1) hr' _ (k + 1) (Nat.le_refl _), Array.toList_push, ext_take]
      rw [Nat.sub_self, List.take_zero]
      have e2 : gluP [] (spl c r) = spl c r := by
        cases e : spl c r with
        | nil => rfl
        | cons p q => rw [gluP_cons, List.nil_append]
      rw [e2, spl, if_pos hc, gluP_cons, List.append_nil, List.map_cons, List.append_assoc]; rfl
    · have hp : ¬ (l[k]? == some c) = true := by rw [hk]; simpa using hc
      rw [List.filter_cons_of_neg (p := fun i => l[i]? == some c) hp, btw l c f hf r (k + 1) hr' parts last (by omega), hstep, spl, if_neg hc]
      cases e : spl c r with
      | nil => exact absurd e (spl_ne c r)
      | cons p q =>
        show _ = parts.toList ++ (gluP _ ((x :: p) :: q)).map List.toArray
        rw [gluP_cons, gluP_cons, List.append_assoc]; rfl
theorem between_eq (l : List UInt8) (c : UInt8) : Bytes.between l.toArray (#[c] : Array UInt8).size ((List.range l.length).filter fun i => l[i]? == some c) = (spl c l).map List.toArray := by
  have h := btw l c _ rfl l 0 rfl #[] 0 (Nat.le_refl _)
  rw [← List.range_eq_range'] at h
  have e2 : gluP ((l.drop 0).take (0 - 0)) (spl c l) = spl c l := by
    cases e : spl c l with
    | nil => rfl
    | cons p q => rfl
  rw [e2] at h
  unfold Bytes.between
  exact h
theorem join_fold (sep : List UInt8) : ∀ (ps : List (List UInt8)) (i : Nat) (out : List UInt8), 1 ≤ i →
    ((ps.map List.toArray).zipIdx i).foldl (fun out (x : Array UInt8 × Nat) => (if x.2 > 0 then out ++ sep.toArray else out) ++ x.1) out.toArray = (out ++ (ps.map fun p => sep ++ p).flatten).toArray
  | [], i, out, h => by simp
  | p :: ps, i, out, h => by
    rw [List.map_cons, List.zipIdx_cons, List.foldl_cons]
    have e : ((if i > 0 then out.toArray ++ sep.toArray else out.toArray) ++ p.toArray) = (out ++ sep ++ p).toArray := by
      rw [if_pos (by omega)]; simp
    show List.foldl _ ((if i > 0 then out.toArray ++ sep.toArray else out.toArray) ++ p.toArray) _ = _
    rw [e, join_fold sep ps (i + 1) _ (by omega)]
    simp
theorem jn_cons (sep p : List UInt8) : ∀ ps : List (List UInt8), jn sep (p :: ps) = p ++ (ps.map fun p => sep ++ p).flatten
  | [] => by simp [jn]
  | q :: ps => by
    show p ++ sep ++ jn sep (q :: ps) = _
    rw [jn_cons sep q ps]; simp
theorem joined_eq (sep : List UInt8) (ps : List (List UInt8)) : Bytes.joined sep.toArray (ps.map List.toArray) = (jn sep ps).toArray := by
  unfold Bytes.joined
  cases ps with
  | nil => rfl
  | cons p ps =>
    rw [List.map_cons, List.zipIdx_cons, List.foldl_cons]
    show List.foldl _ ((if 0 > 0 then (#[] : Array UInt8) ++ sep.toArray else #[]) ++ p.toArray) _ = _
    have e : ((if 0 > 0 then (#[] : Array UInt8) ++ sep.toArray else #[]) ++ p.toArray) = p.toArray := by simp
    rw [e, jn_cons]
    exact join_fold sep ps 1 p (Nat.le_refl _)
-- values of octets
noncomputable def bvs (l : List (List UInt8 × Tok)) : List Value := l.map fun x => .bytes x.1.toArray x.2
theorem sees_b {g : Glo} {P : PS} {δ : List Addr} : ∀ (l : List (List UInt8 × Tok)), g.SeesL P δ (bvs l) ((l.map (·.1)).map (.tx .b))
  | [] => .nil
  | x :: l => .cons (.bytes _ _) (sees_b l)
theorem seen_b {g : Glo} {P : PS} {δ : List Addr} : ∀ {vs : List Value} (ps : List (List UInt8)), g.SeesL P δ vs (ps.map (.tx .b)) → ∃ l, vs = bvs l ∧ l.map (·.1) = ps
  | vs, [], h => ⟨[], by rw [SeesL.nil_inv h]; rfl, rfl⟩
  | vs, p :: ps, h => by
    obtain ⟨v, us, rfl, h1, h2⟩ := SeesL.cons_inv h
    obtain ⟨t, rfl⟩ := h1.tells
    obtain ⟨l, rfl, e⟩ := seen_b ps h2
    exact ⟨(p, t) :: l, rfl, by rw [List.map_cons, e]⟩
theorem mapM_new {M : Model} {A : Around} {E : Value → Shared → Prop} : ∀ (ps : List (List UInt8)) (s : Shared) (Q : List Value → Shared → Prop), (∀ p ∈ ps, p.length ≤ 16777216) → (∀ l k, l.map (·.1) = ps → Q (bvs l) { s with toks := k }) →
    wpAny M A ((ps.map List.toArray).mapM Bytes.Kind.bytes.new) Q E s
  | [], s, Q, _, h => wpAny_pure (h [] s.toks rfl)
  | p :: ps, s, Q, hp, h => by
    rw [List.map_cons, List.mapM_cons]
    refine wpAny_bind (wpAny_mkBytes ?_ (by rw [List.size_toArray, sizeLine_eq]; exact hp p List.mem_cons_self))
    refine wpAny_bind (mapM_new ps _ _ (fun q hq => hp q (List.mem_cons_of_mem _ hq)) fun l k e => wpAny_pure ?_)
    exact h ((p, s.toks) :: l) k (by rw [List.map_cons, e])
end BF
end Mine
end
section
open PySem PySem.W PyProof.Rows PySem.Calls PySem.SeqAt PySem.Builtin
set_option Elab.async false
set_option linter.unusedVariables false
namespace Mine
namespace BF
section
variable {t u : Tok}
set_option maxRecDepth 100000
theorem spl_mem_len (c : UInt8) : ∀ (l p : List UInt8), p ∈ spl c l → p.length ≤ l.length
  | [], p, h => by simp [spl] at h; simp [h]
  | x :: r, p, h => by
    have ih := spl_mem_len c r
    unfold spl at h
    split at h
    · rcases List.mem_cons.mp h with rfl | h
      · exact Nat.zero_le _
      · have := ih p h; simp; omega
    · split at h
      · simp at h; simp [h]
      · rename_i p' q e
        rcases List.mem_cons.mp h with rfl | h
        · have := ih p' (by rw [e]; exact List.mem_cons_self); simp; omega
        · have := ih p (by rw [e]; exact List.mem_cons_of_mem _ h); simp; omega
theorem m_split {l : List UInt8} {c : UInt8} (hz : l.length ≤ 16000000) : Meets («bytes.split» ⟨[.bytes l.toArray t, .bytes [c].toArray u], []⟩)
    (fun A R s => ∀ vl k, vl.map (·.1) = spl c l → R (.ok (.ret (.ref s.heap.objs.size))) { s with heap := s.heap.push { cls := .type "list", data := .seq (bvs vl).toArray }, toks := k }) := by
  refine .of_wp fun prog w A R s h => ?_
  show wpAny _ _ (Bytes.bytesLike _ (.bytes [c].toArray u) >>= fun r => _) _ _ s
  refine wpAny_bind (wpAny_of_eq like ?_)
  refine wpAny_ite (ite_n (by simp) ?_)
  have hp : (if false = true then Bytes.occurrencesFromRight l.toArray #[c] (if (-1 : Int) < 0 then l.toArray.size + 1 else (-1 : Int).toNat) else List.take (if (-1 : Int) < 0 then l.toArray.size + 1 else (-1 : Int).toNat) (Bytes.occurrences l.toArray #[c] 0 l.toArray.size)) = (List.range l.length).filter fun i => l[i]? == some c := by
    rw [if_neg (by decide), if_pos (by decide), List.size_toArray, occ_eq, List.take_of_length_le]
    exact Nat.le_trans (List.length_filter_le _ _) (by simp)
  show wpAny _ _ (if (if false = true then Bytes.occurrencesFromRight l.toArray #[c] (if (-1 : Int) < 0 then l.toArray.size + 1 else (-1 : Int).toNat) else List.take (if (-1 : Int) < 0 then l.toArray.size + 1 else (-1 : Int).toNat) (Bytes.occurrences l.toArray #[c] 0 l.toArray.size)).isEmpty = true then _ else _) _ _ s
  have hlen : (spl c l).length ≤ 16777216 := by have := spl_length c l; omega
  refine wpAny_ite ?_
  rw [hp]
  split
  · rename_i he
    have e := between_eq l c
    rw [List.isEmpty_iff.mp he] at e
    have e2 : spl c l = [l] := by
      have e3 : [l.toArray.extract 0 l.toArray.size] = (spl c l).map List.toArray := e
      cases e4 : spl c l with
      | nil => exact absurd e4 (spl_ne c l)
      | cons p q =>
        rw [e4, List.map_cons] at e3
        injection e3 with a b
        have : q = [] := by simpa using b.symm
        subst this
        have a' := congrArg Array.toList a
        simp at a'
        rw [← a']
    refine wpAny_bind (wpAny_rule ?_)
    refine wpAny_bind (wpAny_of_eq (a := .bytes l.toArray t) rfl ?_)
    refine wpAny_bind (wpAny_newList ?_)
    exact wpAny_pure ⟨_, rfl, h [(l, t)] s.toks (by rw [e2]; rfl)⟩
  · show wpAny _ _ (List.mapM Bytes.Kind.bytes.new (Bytes.between l.toArray (#[c] : Array UInt8).size _) >>= _) _ _ s
    rw [between_eq]
    refine wpAny_bind (mapM_new _ _ _ (fun p hp => ?_) fun vl k e => ?_)
    · have := spl_mem_len c l p hp
      omega
    · refine wpAny_bind (wpAny_newList ?_ ?_)
      · exact wpAny_pure ⟨_, rfl, h vl k e⟩
      · have := congrArg List.length e
        rw [List.length_map] at this
        unfold bvs
        rw [List.length_map, this, sizeLine_eq]; exact hlen
theorem letgo_all {M : Model} {A : Around} {E : Value → Shared → Prop} {s : Shared} {keep : List Value} {Q : Unit → Shared → Prop} (h : Q () s) : ∀ l : List (List UInt8 × Tok), wpAny M A (Bytes.joinLetGo (l.map fun x => (Value.bytes x.1.toArray x.2, none)) keep) Q E s
  | [] => wpAny_pure h
  | x :: l => by
    rw [List.map_cons]
    exact wpAny_bind (wpAny_letGo (letgo_all h l))
theorem size_fold (n : Nat) : ∀ l : List (List UInt8), (l.map List.toArray).foldl (fun x (y : Array UInt8) => x + y.size) n = n + (l.map List.length).sum
  | [] => rfl
  | p :: l => by
    rw [List.map_cons, List.foldl_cons, size_fold _ l, List.map_cons, List.sum_cons, List.size_toArray]; omega
theorem sum_bound (m : Nat) : ∀ l : List (List UInt8), m * (l.length - 1) + (l.map List.length).sum ≤ (l.map fun p => p.length + m).sum ∧ m * l.length + (l.map List.length).sum = (l.map fun p => p.length + m).sum
  | [] => by simp
  | p :: l => by
    obtain ⟨_, ih⟩ := sum_bound m l
    rw [List.map_cons, List.map_cons, List.sum_cons, List.sum_cons, List.length_cons, Nat.add_sub_cancel, Nat.mul_add]
    constructor <;> omega
theorem jn_size (sep : List UInt8) : ∀ l : List (List UInt8), (jn sep l).length ≤ (l.map fun p => p.length + sep.length).sum
  | [] => Nat.zero_le _
  | [p] => by simp [jn]
  | p :: q :: r => by
    have := jn_size sep (q :: r)
    rw [List.map_cons, List.sum_cons]
    show (p ++ sep ++ jn sep (q :: r)).length ≤ _
    rw [List.length_append, List.length_append]; omega
theorem m_join {sep : List UInt8} {vl : List (List UInt8 × Tok)} {a : Addr} (hz : ((vl.map (·.1)).map fun p => p.length + sep.length).sum ≤ 16777216) :
    Meets («bytes.join» ⟨[.bytes sep.toArray t, .ref a], []⟩) (fun A R s => s.heap.IsList a (bvs vl).toArray ∧ GB (jn sep (vl.map (·.1))).toArray A R s) := by
  refine .of_wp fun prog w A R s hS => ?_
  obtain ⟨hl, h⟩ := hS
  obtain ⟨o, ho, hc, n, hd⟩ := hl
  have hln : (bvs vl).length = vl.length := List.length_map _
  have hsq : ∀ {s' : Shared} {Q : Option (Array Value) → Shared → Prop}, s'.heap = s.heap → Q (some (bvs vl).toArray) s' → wpAny (model prog w) A.in1 (seqItems? (.ref a)) Q (fun e s' => R (.error e) s') s' := fun e q => wpAny_seqItems (by rw [e]; exact ho) hd q
  show wpAny _ _ (Bytes.joinItems _ >>= fun r => _) _ _ s
  refine wpAny_bind ?_
  refine wpAny_bind (wpAny_typeOf (T := "list") ⟨o, ho, hc⟩ ?_)
  refine wpAny_pure ?_
  refine wpAny_bind (hsq rfl ?_)
  have one : ∀ (one : Value) , (bvs vl).toArray = #[one] → ∃ x tk, vl = [(x, tk)] ∧ one = .bytes x.toArray tk := by
    intro one e
    cases vl with
    | nil => simp [bvs] at e
    | cons y l =>
      cases l with
      | nil => exact ⟨y.1, y.2, rfl, by simpa [bvs] using e.symm⟩
      | cons z l => simp [bvs] at e
  refine wpAny_ite (ite_y rfl ?_)
  have hsz : (bvs vl).toArray.size = vl.length := by rw [List.size_toArray, hln]
  have hgetD : ∀ (x : Nat) (hx : x < vl.length), (bvs vl).toArray.getD x .none = .bytes vl[x].1.toArray vl[x].2 := fun x hx => by
    unfold bvs
    simp [hx]
  have lone : ∀ vl : List (List UInt8 × Tok), (∃ x tk, vl = [(x, tk)]) ∨ vl.length ≠ 1 := fun vl => by
    rcases vl with _ | ⟨y, _ | ⟨z, r⟩⟩
    · exact .inr (by simp)
    · exact .inl ⟨y.1, y.2, rfl⟩
    · exact .inr (by simp)
  rcases lone vl with ⟨x, tk, rfl⟩ | hne
  · show wpAny _ _ (typeOf (Value.bytes x.toArray tk) >>= fun r => _) _ _ s
    refine wpAny_bind (wpAny_typeOf (typeIs_bytes s _ tk) ?_)
    refine wpAny_ite (ite_y rfl ?_)
    exact wpAny_bind (wpAny_rule (wpAny_pure ⟨_, rfl, h tk s.toks⟩))
  generalize (bvs vl).toArray = items at hsq hd one hsz hgetD ⊢
  have hne' : items.size ≠ 1 := by rw [hsz]; exact hne
  have hm : ∀ {α : Type} (f : Value → α) (g : Array Value → α), Bytes.joinM.match_1 (motive := fun _ => α) items f g = g items := fun f g => by
    unfold Bytes.joinM.match_1
    rw [dif_neg hne']
  rw [hm]
  · refine wpAny_bind ?_
    rw [Std.Legacy.Range.forIn_eq_forIn_range']
    simp only [Std.Legacy.Range.size, Nat.sub_zero, Nat.add_sub_cancel, Nat.div_one, hsz]
    refine wpAny_forIn_list _ (fun rest (b : Array (Array UInt8) × List (Value × Option Value)) s' => s' = s ∧ ∃ i, rest = List.range' i (vl.length - i) ∧ i ≤ vl.length ∧ b = (((vl.take i).map (·.1.toArray)).toArray, (vl.take i).map fun x => (Value.bytes x.1.toArray x.2, none))) _ ?_ ?_ _ _ ⟨rfl, 0, rfl, Nat.zero_le _, rfl⟩
    · rintro x rest b s' ⟨rfl, i, hr, hi, rfl⟩
      have hlt : i < vl.length := by
        rcases Nat.lt_or_ge i vl.length with h | h
        · exact h
        · rw [Nat.sub_eq_zero_of_le h] at hr; simp at hr
      obtain ⟨rfl, hrest⟩ : x = i ∧ rest = List.range' (i + 1) (vl.length - (i + 1)) := by
        have e : vl.length - i = (vl.length - (i + 1)) + 1 := by omega
        rw [e, List.range'_succ] at hr
        injection hr with h1 h2
        exact ⟨h1, h2⟩
      have hv : vl[x]? = some vl[x] := List.getElem?_eq_getElem hlt
      refine wpAny_bind (hsq rfl ?_)
      have hget := hgetD x hlt
      have hheap : (((vl.take x).map fun x => (Value.bytes x.1.toArray x.2, (none : Option Value))).any fun x => x.1.onHeap) = false := by
        rw [List.any_eq_false]
        intro z hz
        obtain ⟨y, _, rfl⟩ := List.mem_map.mp hz
        exact Bool.false_ne_true
      refine wpAny_ite (ite_n (by show ¬ (false || (((vl.take x).map fun x => (Value.bytes x.1.toArray x.2, (none : Option Value))).any fun x => x.1.onHeap)) = true; rw [hheap]; decide) ?_)
      show wpAny _ _ (holding _ (Bytes.takeBufferQuiet? _ (items.getD x .none) 0) >>= _) _ _ _
      rw [hget]
      refine wpAny_bind (wpAny_holding (wpAny_of_eq takeq ?_))
      refine wpAny_bind (hsq rfl ?_)
      refine wpAny_ite (ite_n (by simp [hsz]) (wpAny_pure ⟨rfl, x + 1, hrest, hlt, ?_⟩))
      have e1 : vl.take (x + 1) = vl.take x ++ [vl[x]] := by rw [List.take_add_one, hv]; rfl
      refine Prod.ext ?_ ?_
      · show ((vl.take x).map (·.1.toArray)).toArray.push vl[x].1.toArray = _
        rw [e1, List.map_append, List.push_toArray]; rfl
      · show ((vl.take x).map fun x => (Value.bytes x.1.toArray x.2, (none : Option Value))) ++ [(Value.bytes vl[x].1.toArray vl[x].2, none)] = _
        rw [e1]; show _ = ((vl.take x ++ [vl[x]]).map fun x => (Value.bytes x.1.toArray x.2, (none : Option Value))); rw [List.map_append]; rfl
    · rintro b s' ⟨rfl, i, hr, hi, rfl⟩
      have hin : i = vl.length := by
        rcases Nat.lt_or_ge i vl.length with h | h
        · have e : vl.length - i = (vl.length - (i + 1)) + 1 := by omega
          rw [e, List.range'_succ] at hr; exact nomatch hr
        · exact Nat.le_antisymm hi h
      subst hin
      rw [List.take_length]
      refine wpAny_bind (wpAny_of_eq (a := sep.toArray) rfl ?_)
      have ep : vl.map (fun x => x.1.toArray) = (vl.map (·.1)).map List.toArray := by rw [List.map_map]; rfl
      have es : Array.foldl (fun x1 x2 => x1 + x2.size) (sep.toArray.size * ((vl.map (fun x => x.1.toArray)).toArray.size - 1)) (vl.map (fun x => x.1.toArray)).toArray ≤ 16777216 := by
        rw [List.foldl_toArray' (h := rfl), ep]
        show List.foldl (fun x (y : Array UInt8) => x + y.size) _ _ ≤ _
        rw [size_fold]
        have := (sum_bound sep.length (vl.map (·.1))).1
        simp at this ⊢
        simp at hz
        omega
      refine wpAny_ite (ite_n (by rw [short es]; exact Bool.false_ne_true) ?_)
      show wpAny _ _ (Bytes.Kind.bytes.new (Bytes.joined sep.toArray (vl.map (fun x => x.1.toArray)).toArray.toList) >>= _) _ _ _
      rw [show (vl.map (fun x => x.1.toArray)).toArray.toList = (vl.map (·.1)).map List.toArray from ep, joined_eq]
      refine wpAny_bind (wpAny_mkBytes ?_ (by rw [List.size_toArray, sizeLine_eq]; exact Nat.le_trans (jn_size _ _) hz))
      refine wpAny_bind (wpAny_holding (wpAny_point ?_))
      refine wpAny_bind (letgo_all ?_ vl)
      exact wpAny_pure ⟨_, rfl, h _ _⟩
end
end BF
end Mine
end
section
open PySem PySem.W PyProof.Rows PySem.Calls PySem.SeqAt PySem.Builtin
set_option Elab.async false
set_option linter.unusedVariables false
set_option maxRecDepth 100000
namespace Mine
section
variable {g : Glo} {R : RS} {P : PS} {δ : List Addr} {env : Env} {ρ : Loc} {σ σ' : List MO} {n : Nat}
theorem recv_b {l : List UInt8} {s : Shared} {v : Value} (hv : g.Sees P δ v (.tx .b l)) : s.TypeIs v "bytes" ∧ ∀ a, v = .ref a → ∃ ob, s.heap.get? a = some ob ∧ ob.dict = none := by
  obtain ⟨t, rfl⟩ := hv.tells
  exact ⟨typeIs_bytes _ _ _, fun _ e => nomatch e⟩
theorem call_mul {prog : Program} {w : World} {A : Around} {E : Value → Shared → Prop} {s : Shared} {l : List UInt8} {m : Nat} {t u : Tok} {Q : Value → Shared → Prop} (ha : l ≠ []) (ha' : l.length ≤ 16) (hm : m ≤ 1048576) (h : ∀ t' k, Q (.bytes (rep m l).toArray t') { s with toks := k }) :
    wpAny (model prog w) A (call (.builtin "bytes.__mul__") [.bytes l.toArray t, .int (m : Int) u]) Q E s := by
  obtain ⟨B, hB, he⟩ := BF.ex_mul
  exact call_meets BF.slot_mul (typeIs_bytes s _ t) he (BF.args_mul _ _) (BF.m_mul hB ha ha' hm) h
theorem txops_b : TxOps g .b where
  slc := slct_b
  add := fun n σ a b hz => .of fun env ρ A R P δ s Q v u hA I hv hu h => by
    obtain ⟨t, rfl⟩ := hv.tells
    obtain ⟨u, rfl⟩ := hu.tells
    refine PySem.concat_meets (typeIs_bytes s _ t) (typeIs_bytes s _ u) BF.nofill_add BF.seq_add FB.slot_bytes_add FB.entry_bytes_add (FB.args_bytes_add_2 _ _) (BF.m_add (by simpa using hz)) fun t' k => ?_
    show Q (.bytes (a.toArray ++ b.toArray) t') _
    rw [List.append_toArray]
    exact stay k I h (.bytes _ _)
  mul := fun n σ a m h1 h2 h3 => .of fun env ρ A R P δ s Q v u hA I hv hu h => by
    obtain ⟨t, rfl⟩ := hv.tells
    obtain ⟨u, rfl⟩ := hu.tells
    exact wpAny_binaryOp_repeat (T := "bytes") (U := "int") (by decide) (fun s' => typeIs_bytes s' _ t) (fun s' => typeIs_int s' _ u) BF.nofill_mul F.fills_int_mul F.slot_int_rmul BF.rep_mul F.slot_int_index.lookup
      (call_gives F.slot_int_rmul (typeIs_int s _ u) F.entry_int_rmul (F.args_int_rmul_2 _ _) (BF.g_rmul _)
        ⟨rfl, call_mul h1 h2 h3 fun t' k => stay k I h (.bytes _ _)⟩)
  starts := fun n σ l c => ⟨"bytes", "bytes.startswith", FB.plainAttrs_bytes, FB.slot_bytes_startswith, FB.type_bytes_startswith, fun _ _ _ _ _ _ _ _ hv => recv_b hv, .two fun env ρ A R P δ s Q v u hA I hv hu h => by
    obtain ⟨t, rfl⟩ := hv.tells
    obtain ⟨u, rfl⟩ := hu.tells
    exact call_meets FB.slot_bytes_startswith (typeIs_bytes s _ t) FB.entry_bytes_startswith (FB.args_bytes_startswith_2 _ _) BF.m_starts (show Q _ s from stay s.toks I h (.bool _))⟩
  ends := fun n σ l c => ⟨"bytes", "bytes.endswith", FB.plainAttrs_bytes, FB.slot_bytes_endswith, FB.type_bytes_endswith, fun _ _ _ _ _ _ _ _ hv => recv_b hv, .two fun env ρ A R P δ s Q v u hA I hv hu h => by
    obtain ⟨t, rfl⟩ := hv.tells
    obtain ⟨u, rfl⟩ := hu.tells
    exact call_meets FB.slot_bytes_endswith (typeIs_bytes s _ t) FB.entry_bytes_endswith (FB.args_bytes_endswith_2 _ _) BF.m_ends (show Q _ s from stay s.toks I h (.bool _))⟩
  rfind := fun n σ l c => ⟨"bytes", "bytes.rfind", FB.plainAttrs_bytes, BF.slot_rfind, BF.type_rfind, fun _ _ _ _ _ _ _ _ hv => recv_b hv, .two fun env ρ A R P δ s Q v u hA I hv hu h => by
    obtain ⟨t, rfl⟩ := hv.tells
    obtain ⟨u, rfl⟩ := hu.tells
    exact call_meets BF.slot_rfind (typeIs_bytes s _ t) BF.entry_rfind (BF.args_rfind _ _) BF.m_rfind fun t' k => (show Q _ _ from stay k I h (.int _ _))⟩
  rstrip := fun n σ l c hz => ⟨"bytes", "bytes.rstrip", FB.plainAttrs_bytes, BF.slot_rstrip, BF.type_rstrip, fun _ _ _ _ _ _ _ _ hv => recv_b hv, .two fun env ρ A R P δ s Q v u hA I hv hu h => by
    obtain ⟨t, rfl⟩ := hv.tells
    obtain ⟨u, rfl⟩ := hu.tells
    exact call_meets BF.slot_rstrip (typeIs_bytes s _ t) BF.entry_rstrip (BF.args_rstrip _ _) (BF.m_rstrip hz) fun t' k => (show Q _ _ from stay k I h (.bytes _ _))⟩
  split := fun n σ l c hz => ⟨"bytes", "bytes.split", FB.plainAttrs_bytes, BF.slot_split, BF.type_split, fun _ _ _ _ _ _ _ _ hv => recv_b hv, .two fun env ρ A R P δ s Q v u hA I hv hu h => by
    obtain ⟨t, rfl⟩ := hv.tells
    obtain ⟨u, rfl⟩ := hu.tells
    refine call_meets BF.slot_split (typeIs_bytes s _ t) BF.entry_split (BF.args_split _ _) (BF.m_split hz) fun vl k e => ?_
    rw [← e] at h
    exact h _ _ δ (s.heap.push _) k pin_le (List.prefix_refl _) (I.pushPin _) (.mkList pin_at rfl rfl (BF.sees_b vl))⟩
  join := fun n σ l ps x hx hz => ⟨"bytes", "bytes.join", FB.plainAttrs_bytes, BF.slot_join, BF.type_join, fun _ _ _ _ _ _ _ _ hv => recv_b hv, .two fun env ρ A R P δ s Q v u hA I hv hu h => by
    obtain ⟨t, rfl⟩ := hv.tells
    obtain ⟨a, vs, rfl, hl, hs⟩ := I.listOf hx hu
    obtain ⟨vl, rfl, rfl⟩ := BF.seen_b ps hs
    exact call_meets BF.slot_join (typeIs_bytes s _ t) BF.entry_join (BF.args_join _ _) (BF.m_join hz) ⟨hl, fun t' k => (show Q _ _ from stay k I h (.bytes _ _))⟩⟩
  iadd := fun n σ a b hz => .of fun env ρ A R P δ s Q v u hA I hv hu h => by
    obtain ⟨t, rfl⟩ := hv.tells
    obtain ⟨u, rfl⟩ := hu.tells
    refine wpAny_inplaceOp_concat (typeIs_bytes s _ t) (typeIs_bytes s _ u) BF.l_iadd BF.nofill_add BF.seq_add (call_meets FB.slot_bytes_add (typeIs_bytes s _ t) FB.entry_bytes_add (FB.args_bytes_add_2 _ _) (BF.m_add (by simpa using hz)) fun t' k => ?_)
    show Q (.bytes (a.toArray ++ b.toArray) t') _
    rw [List.append_toArray]
    exact stay k I h (.bytes _ _)
theorem txcmp_b : TxCmp g .b where
  lt := fun P δ A s v u a b hv hu prog w E Q h => by
    obtain ⟨t, rfl⟩ := hv.tells
    obtain ⟨t', rfl⟩ := hu.tells
    refine richCompare_meets (op := .Lt) (T := "bytes") (typeIs_bytes s _ t) (typeIs_bytes s _ t') BF.slot_lt BF.entry_lt (BF.args_lt _ _) BF.m_lt ?_
    show _ ∧ Q _ s
    refine ⟨(fun x => nomatch x), ?_⟩
    rw [BF.order_lt]; exact h
  gt := fun P δ A s v u a b hv hu prog w E Q h => by
    obtain ⟨t, rfl⟩ := hv.tells
    obtain ⟨t', rfl⟩ := hu.tells
    refine richCompare_meets (op := .Gt) (T := "bytes") (typeIs_bytes s _ t) (typeIs_bytes s _ t') BF.slot_gt BF.entry_gt (BF.args_gt _ _) BF.m_gt ?_
    show _ ∧ Q _ s
    refine ⟨(fun x => nomatch x), ?_⟩
    rw [BF.order_swap, BF.order_lt]; exact h
end
end Mine
end
section
open PySem PySem.W PyProof.Rows PySem.Calls PySem.SeqAt PySem.Builtin
set_option Elab.async false
set_option linter.unusedVariables false
set_option maxRecDepth 100000
namespace Mine
namespace BF
theorem mro_b : mroOf (.type "bytes") = pure [.type "bytes", .type "object"] := by rw [mroOf_type]; kernel_rfl
theorem l_new : typeLookup (.type "bytes") "__new__" = pure (some (.builtin "bytes.__new__")) := by rw [typeLookup_type, builtinLookup_eq_fast]; kernel_rfl
theorem slot_init : Slot "bytes" "__init__" "object.__init__" :=
  .of (owner := "object") (n := "__init__") (by rw [typeLookup_type, builtinLookup_eq_fast]; kernel_rfl) (by decide +kernel) (by decide +kernel) (by decide +kernel)
    (by first | exact .inl (by decide +kernel) | exact .inr (by decide +kernel)) (by rw [isSubtype_type]; kernel_rfl)
theorem called : TypeCalled "bytes" "bytes.__new__" "object.__init__" :=
  ⟨by decide +kernel, by decide +kernel, ⟨_, _, mro_b⟩, madeBy_type mro_b l_new (by decide +kernel), by decide +kernel, by rw [isSubtype_type]; kernel_rfl, slot_init⟩
theorem call1 (a : Value) : checkTypeCall "bytes" ⟨[a], []⟩ = pure () := by kernel_rfl
theorem new1 (a : Value) : checkBuiltinCall "bytes.__new__" ⟨[.type "bytes", a], []⟩ = pure () := by kernel_rfl
theorem plain_loop : plainId "bytes.__new__.loop" = true := by decide +kernel
theorem entry_new : entryFor table "bytes.__new__" = some Builtin.«bytes.__new__» := entryFor_of_tree (by kernel_rfl)
theorem entry_loop : entryFor table "bytes.__new__.loop" = some Builtin.«bytes.__new__.loop» := entryFor_of_tree (by kernel_rfl)
theorem ll_bytes : typeLookup (.type "list") "__bytes__" = pure none := by rw [typeLookup_type, builtinLookup_eq_fast]; kernel_rfl
theorem ll_index : typeLookup (.type "list") "__index__" = pure none := by rw [typeLookup_type, builtinLookup_eq_fast]; kernel_rfl
theorem ll_buffer : typeLookup (.type "list") "__buffer__" = pure none := by rw [typeLookup_type, builtinLookup_eq_fast]; kernel_rfl
theorem bind3 (v : Value) : Bytes.bindOptional "bytes.__new__" "bytes" ["source", "encoding", "errors"] [v] [] = pure [some v, none, none] := by kernel_rfl
theorem split_len : splitId "list.__len__" = some ("list", "__len__") := by decide +kernel
theorem sub_ll : isSubtype (.type "list") (.type "list") = pure true := by rw [isSubtype_type]; kernel_rfl
theorem sub_b : isSubtype (.type "bytes") (.type "bytes") = pure true := by rw [isSubtype_type]; kernel_rfl
section
variable {prog : Program} {w : World} {A : Around} {s : Shared}
theorem loop1 {R : Result → Shared → Prop} {l I S : Addr} {n : Int} {t : Tok} (hh : A.handled = none) (h0 : 0 ≤ n) (h1 : n < 256) (hIS : I ≠ S) (hlI : l ≠ I) (hlS : l ≠ S)
    (hl : s.heap.IsList l #[.int n t]) (hit : s.heap.IsListIter I l 0) (hS : s.heap.get? S = some { cls := .type "bytearray", data := .bytearray #[] })
    (hR : ∀ h' t k', (∀ b o, b ≠ I → b ≠ S → s.heap.get? b = some o → h'.get? b = some o) → R (.ok (.ret (.bytes #[n.toNat.toUInt8] t))) { s with heap := h', toks := k' }) :
    codeAny (model prog w) A (.builtin "bytes.__new__.loop" ⟨[.type "bytes", .ref I, .ref S], []⟩) R s := by
  refine codeAny_builtin entry_loop ?_
  rw [Around.under_plainId plain_loop _]
  show wpAny _ A.in1 (pyNext (.ref I) >>= _) _ _ s
  refine wpAny_bind (wpAny_pyNext_list_item (x := .int n t) hit hl rfl fun h₁ hit₁ hs₁ => ?_)
  have hS₁ := (hs₁.2 S (Ne.symm hIS)).trans hS
  refine wpAny_bind (wpAny_holding (wpAny_of_eq (rfl : asIndex (.int n t) = pure n) ?_))
  refine wpAny_bind (wpAny_letGo ?_)
  refine wpAny_ite (ite_n (by simp only [Bool.or_eq_true, decide_eq_true_eq]; omega) ?_)
  refine wpAny_bind ?_
  show wpAny _ _ (updateBytearray S (·.push n.toNat.toUInt8)) _ _ _
  unfold updateBytearray
  refine wpAny_bind (wpAny_load hS₁ ?_)
  show wpAny _ _ (update S (Obj.mapBytearray (·.push n.toNat.toUInt8)) >>= fun _ => lookBehind S) _ _ _
  refine wpAny_bind (wpAny_update hS₁ ?_)
  have hS₂ := Heap.get?_update_self (Obj.mapBytearray (·.push n.toNat.toUInt8)) hS₁ rfl
  have hsb : Heap.SameBut S h₁ (h₁.update S (Obj.mapBytearray (·.push n.toNat.toUInt8))) := Heap.SameBut.update ..
  generalize h₁.update S (Obj.mapBytearray (·.push n.toNat.toUInt8)) = h₂ at hS₂ hsb ⊢
  refine wpAny_lookBehind hS₂ ?_ ?_
  · show (if (#[n.toNat.toUInt8] : Array UInt8).size > sizeLine then some "bytearray:memory" else none) = none
    exact if_neg (by rw [sizeLine_eq]; simp)
  refine wpAny_pure ⟨plainId_quiet plain_loop _, codeAny_builtin entry_loop ?_⟩
  rw [Around.under_plainId plain_loop _]
  show wpAny _ A.in1 (pyNext (.ref I) >>= _) _ _ _
  have hl₂ : h₂.IsList l #[.int n t] := (hl.extBut hs₁.extBut hlI).extBut hsb.extBut hlS
  have hit₂ : h₂.IsListIter I l 1 := hit₁.extBut hsb.extBut hIS
  refine wpAny_bind (wpAny_pyNext_list_end hh hit₂ hl₂ (by simp) fun h₃ he => ?_)
  have hS₃ := he S _ (Ne.symm hIS) hS₂
  refine wpAny_bind ?_
  unfold Bytes.payload Bytes.payload?
  refine wpAny_bind (wpAny_bind (wpAny_load hS₃ ?_))
  refine wpAny_pure (wpAny_pure ?_)
  refine wpAny_bind (wpAny_mkBytes ?_ (by rw [sizeLine_eq]; simp))
  have fin := fun t' k' => hR h₃ t' k' fun b o hb hbS e => he b o hb (hsb.extBut b o hbS (hs₁.extBut b o hb e))
  refine wpAny_ite (ite_y (by decide) ?_)
  first
    | exact wpAny_pure (fin _ _)
    | exact wpAny_bind (wpAny_pure (wpAny_pure (fin _ _)))
theorem m_new1 {l : Addr} {n : Int} {t : Tok} (h0 : 0 ≤ n) (h1 : n < 256) : Meets («bytes.__new__» ⟨[.type "bytes", .ref l], []⟩)
    (fun A R s => A.handled = none ∧ s.heap.IsList l #[.int n t] ∧ ∀ h' t k, (∀ b o, s.heap.get? b = some o → h'.get? b = some o) → R (.ok (.ret (.bytes #[n.toNat.toUInt8] t))) { s with heap := h', toks := k }) := by
  intro prog w A R s hS
  obtain ⟨hh, hl, hQ⟩ := hS
  have hT : s.TypeIs (.ref l) "list" := hl.typeIs
  obtain ⟨ol, hol, hoc, nl, hod⟩ := id hl
  unfold Builtin.«bytes.__new__»
  refine wpAny_bind (wpAny_of_eq (a := true) rfl ?_)
  refine wpAny_ite (ite_n (by decide) ?_)
  refine wpAny_bind (wpAny_of_eq sub_b ?_)
  refine wpAny_ite (ite_n (by decide) ?_)
  refine wpAny_bind (wpAny_of_eq (bind3 _) ?_)
  refine wpAny_bind (wpAny_of_eq (a := ()) rfl ?_)
  refine wpAny_bind (wpAny_of_eq (a := ()) rfl ?_)
  refine wpAny_ite (ite_n (by decide) ?_)
  refine wpAny_bind (wpAny_specialOf hT ll_bytes ?_)
  refine wpAny_bind (wpAny_bind ?_)
  show wpAny _ _ (load l >>= _) _ _ _
  refine wpAny_bind (wpAny_load hol ?_)
  rw [hod]
  refine wpAny_pure (wpAny_pure ?_)
  refine wpAny_ite (ite_n (by decide) ?_)
  refine wpAny_bind (wpAny_specialOf hT ll_index ?_)
  refine wpAny_ite (ite_y (by decide) ?_)
  first
    | show wpAny _ _ (Bytes.buffer? "bytes.__new__" (.ref l) true >>= _) _ _ _
    | (refine wpAny_bind ?_; show wpAny _ _ (Bytes.buffer? "bytes.__new__" (.ref l) true >>= _) _ _ _)
  refine wpAny_bind ?_
  unfold Bytes.buffer?
  refine wpAny_bind (wpAny_specialOf hT ll_buffer ?_)
  refine wpAny_bind (wpAny_specialOf hT ll_buffer ?_)
  refine wpAny_pure ?_
  refine wpAny_bind (wpAny_tryCatch (wpAny_pyIter_list hl ?_))
  generalize hH1 : s.heap.push { cls := .type "list_iterator", data := .fields #[.ref l, .int 0 0] } = H1
  have k1 : ∀ b o, s.heap.get? b = some o → H1.get? b = some o := fun b o e => hH1 ▸ Heap.get?_push_of_some _ e
  have hit : H1.get? s.heap.objs.size = some { cls := .type "list_iterator", data := .fields #[.ref l, .int 0 0] } := hH1 ▸ Heap.get?_push_size _ rfl
  have hsz : H1.objs.size = s.heap.objs.size + 1 := by rw [← hH1, Heap.size_push]
  have hT₁ : ({ s with heap := H1 } : Shared).TypeIs (.ref l) "list" := ⟨ol, k1 _ _ hol, hoc⟩
  refine wpAny_bind (wpAny_holding ?_)
  unfold Bytes.lengthHint
  refine wpAny_bind (wpAny_specialOf hT₁ F.slot_list_len.lookup ?_)
  dsimp only
  rw [split_len]
  dsimp only
  refine wpAny_bind (wpAny_isInstance hT₁ sub_ll ?_)
  refine wpAny_ite (ite_n (by decide) ?_)
  refine wpAny_ite (ite_y (by decide +kernel) ?_)
  refine wpAny_pure ?_
  refine wpAny_bind ?_
  unfold Bytes.newBytearray
  refine wpAny_newObj_type ?_ (Nat.zero_le _)
  have hlt : l < s.heap.objs.size := Heap.lt_size hol
  have main := loop1 (prog := prog) (w := w) (A := A) (R := R) (l := l) (I := s.heap.objs.size) (S := H1.objs.size) (n := n) (t := t) (s := { s with heap := H1.push { cls := .type "bytearray", data := .bytearray #[] } }) hh h0 h1 (by rw [hsz]; exact Nat.ne_of_lt (Nat.lt_succ_self _)) (Nat.ne_of_lt hlt) (by rw [hsz]; exact Nat.ne_of_lt (Nat.lt_succ_of_lt hlt))
    ⟨ol, Heap.get?_push_of_some _ (k1 _ _ hol), hoc, nl, hod⟩ ⟨_, Heap.get?_push_of_some _ hit, rfl, rfl⟩ (Heap.get?_push_size _ rfl)
    fun h' t k hk => hQ h' t k fun b o e => hk b o (Nat.ne_of_lt (Heap.lt_size e)) (by rw [hsz]; exact Nat.ne_of_lt (Nat.lt_succ_of_lt (Heap.lt_size e))) (Heap.get?_push_of_some _ (k1 _ _ e))
  first
    | exact wpAny_pure ⟨plainId_quiet plain_loop _, main⟩
    | exact wpAny_pure (wpAny_pure ⟨plainId_quiet plain_loop _, main⟩)
end
end BF
section
variable {g : Glo} {σ : List MO} {n : Nat}
theorem op_bytes1 {a : Int} (h0 : 0 ≤ a) (h1 : a < 256) : Op g n σ [.list [.int a]] (fun vs => call (.type "bytes") vs) (fun P δ v => g.Sees P δ v (.tx .b [UInt8.ofNat a.toNat])) σ := .one fun env ρ A R P δ s Q v hA I hv h => by
  obtain ⟨l, vs, rfl, hl, hvs⟩ := I.listOf (.inl rfl) hv
  obtain ⟨v, rfl, h3⟩ := hvs.one
  obtain ⟨t, rfl⟩ := h3.tells
  refine callType_new BF.called (by decide) (BF.call1 _) (BF.new1 _) (fun obj => F.args_object_init_2 obj _) BF.entry_new (BF.m_new1 h0 h1) ⟨hA.handled, hl, fun h' t k hk => ?_⟩
  show _ ∧ Q _ _
  exact ⟨typeIs_bytes _ _ _, h _ P δ h' k (fun _ _ z => z) (List.prefix_refl _) (I.grows hk) (.bytes [UInt8.ofNat a.toNat] t)⟩
end
end Mine
end
section
open PySem PySem.W PyProof.Rows PySem.Calls PySem.SeqAt
set_option Elab.async false
set_option linter.unusedVariables false
set_option linter.unusedSectionVars false
set_option maxRecDepth 100000
namespace Mine
theorem wi_right {i : Nat} {w : WS} (h : WI i w) (hi : i ≤ 20) : ∃ p0 ps u us, w.parts = p0 :: ps ∧ w.stops.drop (w.stops.length - 3) = u :: us ∧ RightL p0 ps (toldOf w.s) u us ∧ SzR p0 ps (toldOf w.s) u us ∧ w.stops.length ≤ 1000 ∧ ps.length ≤ 1000 := by
  obtain ⟨⟨l, hg⟩, hne, hj, hok, hlast, hpl, htot, hsl⟩ := h
  obtain ⟨p0, ps, hp⟩ := List.exists_cons_of_ne_nil hne
  have hd : w.stops.drop (w.stops.length - 3) ≠ [] := fun e => by
    have := congrArg List.length e
    rw [List.length_drop] at this
    simp at this; omega
  obtain ⟨u, us, hu⟩ := List.exists_cons_of_ne_nil hd
  have hmem : ∀ x ∈ u :: us, x ∈ w.stops := fun x hx => by rw [← hu] at hx; exact List.mem_of_mem_drop hx
  have hus : us.length ≤ 2 := by
    have := congrArg List.length hu
    rw [List.length_drop, List.length_cons] at this
    omega
  rw [hp, tot_cons] at htot
  have hpsl := tot_length ps
  refine ⟨p0, ps, u, us, hp, hu, right_ofG hg (by rw [← hp]; exact hj) (fun x hx => (hok x (hmem x hx)).1), ⟨by omega, by omega, fun x hx => ?_, fun x hx => ?_, fun x hx => ?_, hus⟩, by omega, by omega⟩
  · have := (hok x (hmem x hx)).2.path; omega
  · have := (hok x (hmem x hx)).2.pieces; omega
  · have := (hok x (hmem x hx)).2.root; omega
theorem at_end (k : Kd) (J : List MO) (d s : LS) : at' k (J ++ [.dict (heldV k d)]) J.length s = J ++ [.dict (heldV k s)] := by
  unfold at'
  rw [List.set_append_right _ _ (Nat.le_refl _)]; simp
noncomputable def cells (k : Kd) (w : WS) : List MO := w.J ++ [.dict (heldV k w.s)]
noncomputable def intsV (ns : List Int) : V := .list (ns.map V.int)
section
variable {g : Glo} (H : Has g pw) {k : Kd} (T : TxOps g k) (C : TxCmp g k)
include H T
theorem d_sign (J : List MO) (s : LS) (z : Sz s) (c : UInt8) : Fn g 6 "_law_read_sign" [.cell J.length, .tx k [c]] (J ++ [.dict (heldV k s)]) .none (J ++ [.dict (heldV k (signS s c))]) := by
  have h := c_sign H T (σ := J ++ [.dict (heldV k s)]) s z c J.length (by simp)
  rw [at_end, at_end] at h
  exact h
theorem d_told (J : List MO) (s : LS) (z : SzT s) : Fn g 4 "_law_told" [.cell J.length] (J ++ [.dict (heldV k s)]) (tdV k (toldOf s)) (J ++ [.dict (heldV k s)]) := by
  have h := c_told H T (σ := J ++ [.dict (heldV k s)]) s z J.length (by simp)
  rw [at_end] at h
  exact h
include C
theorem d_right {i : Nat} {w : WS} (h : WI i w) (hi : i ≤ 20) (σ : List MO) : Fn g 10 "_law_right" [lsV k w.parts, tdsV k w.stops, .tx k [47], .tx k [46]] σ (.bool true) σ := by
  obtain ⟨p0, ps, u, us, e1, e2, h1, h2, h3, h4⟩ := wi_right h hi
  rw [e1]
  exact c_lright H T C p0 ps w.stops (toldOf w.s) u us h.last e2 h3 h4 h1 h2
end
theorem gi_sz {s : LS} (h : ∃ l, GI s l) (hp : (toldOf s).path.length ≤ 30) : SzT s := let ⟨_, hg⟩ := h; (gi_sizes hg hp).1
theorem code_at (f : Nat) : ([V.int 0, .int 47, .int 46, .int 97, .int 47, .int 46, .int 98, .int ((f : Int) / 8)] : List V)[((f : Int) % 8).toNat]? = some (.int (codeOf f : Nat)) := by
  unfold codeOf
  have h1 : f % 8 < 8 := Nat.mod_lt _ (by decide)
  have h2 : ((f : Int) % 8).toNat = f % 8 := by omega
  rw [h2]
  have h3 : ((f : Int) / 8) = ((f / 8 : Nat) : Int) := by omega
  rw [h3]
  generalize f / 8 = q
  match f % 8, h1 with
  | 0, _ | 1, _ | 2, _ | 3, _ | 4, _ | 5, _ | 6, _ | 7, _ => rfl
section
variable {g : Glo} {k : Kd} {sc : Scope} {n : Nat} {ρ : Loc} {σ : List MO}
theorem ev_lastP {e : Expr} {kk : Nat} {p p' p'' : Pos} {ps : List Oct} {q : Oct} (h : Ev g sc n e ρ σ (lsV k ps) σ) (hl : ps.getLast? = some q) (hz : ps.length ≤ 1000) : Ev g sc n (.Subscript e (.UnaryOp .USub (.Constant (.int 1) kk p) p') p'') ρ σ (.tx k q) σ :=
  ev_sub h ev_neg1 (.lst (.inl rfl)) (op_item_last (.inl rfl) (by rw [List.getLast?_map, hl]; rfl) (by rw [List.length_map]; omega))
theorem ev_parts {e1 e2 e3 : Expr} {k1 k2 : Nat} {p1 p2 p3 p4 p5 p6 p7 p8 p9 p10 : Pos} {ps : List Oct} {q : Oct} {c : UInt8} (T : TxOps g k) (h1 : Ev g sc n e1 ρ σ (lsV k ps) σ) (h2 : Ev g sc n e2 ρ σ (lsV k ps) σ) (h3 : Ev g sc n e3 ρ σ (.tx k [c]) σ) (hl : ps.getLast? = some q) (hz : ps.length ≤ 1000) (hq : q.length ≤ 1000) :
    Ev g sc n (.BinOp (.Subscript e1 (.Slice none (some (.UnaryOp .USub (.Constant (.int 1) k1 p1) p2)) none p3) p4) .Add (.List [.BinOp (.Subscript e2 (.UnaryOp .USub (.Constant (.int 1) k2 p5) p6) p7) .Add e3 p8] p9) p10) ρ σ (lsV k (ps.dropLast ++ [q ++ [c]])) σ :=
  ev_eq (ev_bin (ev_slcL (l := ps.map (.tx k)) h1 evp_none (evp_some ev_neg1) (by rw [List.length_map]; omega)) (ev_list (evl_cons (ev_bin (ev_lastP h2 hl hz) h3 (T.add _ _ _ _ (by simp; omega))) evl_nil)) (op_add_list (.inl rfl) (.inl rfl) (by have := psl_length (ps.map (V.tx k)) none (some (-1)); rw [List.length_map] at this; simp; omega))) (by rw [psl_butlast]; unfold lsV; rw [List.map_append, List.map_dropLast]; rfl)
end
section
variable {g : Glo} (H : Has g pw) {k : Kd} (T : TxOps g k) (C : TxCmp g k)
include H T C
theorem law_body (ns : List Int) (hn : ns.length ≤ 63) (hk : ((ns.take 20).sum % 2 == 1) = (k == .b)) : ∀ (name : Str) (params : Arguments) (body : List Stmt) (decs : List Expr) (ret : Option Expr) (tps : List TypeParam) (scope : Scope) (ts : Option Scope) (bind : Str) (pos : Pos),
    pw.main.body[34]? = some (.FunctionDef name params body decs ret tps scope ts bind pos) →
    ∃ σ', Ex g scope 11 body [("script", intsV ns)] [] (End (.bool true) σ') := by
  intro name params body decs ret tps scope ts bind pos h
  let xs : List Int := ns.take 20
  have hxl : xs.length ≤ 20 := by
    show (ns.take 20).length ≤ 20
    rw [List.length_take]; omega
  have hall := wi_all k xs hxl
  have hpsl : psl (ns.map V.int) none (some (20 : Int)) = xs.map V.int := by
    rw [show psl (ns.map V.int) none (some (20 : Int)) = (ns.map V.int).take 20 from psl_upto _ 20, List.map_take]
  refine ⟨cells k (wA k xs xs.length), ?_⟩
  cases h
  refine ex_step (ex1_assign (x := .bool (k == .b)) (ev_eq (ev_cmp (ev_bin (ev_blt (evl_cons (ev_eq (y := .list (xs.map V.int)) (ev_slcL (l := ns.map V.int) ev_name evp_none (evp_some ev_int) (by rw [List.length_map]; omega)) (by rw [hpsl])) evl_nil) op_sum_ints) ev_int (op_mod_int (by decide))) ev_int op_eq_int) (by rw [hk]))) ?_
  refine ex_step (ex1_assign (x := .tx k [47]) (ev_eq (ev_if (c := (k == .b)) (evb_val rfl ev_name tr_bool) (fun _ => ev_bytes (x := [47])) (fun _ => ev_str (l := [47]) (by decide +kernel))) (by cases k <;> rfl))) ?_
  refine ex_step (ex1_assign (x := .tx k [46]) (ev_eq (ev_if (c := (k == .b)) (evb_val rfl ev_name tr_bool) (fun _ => ev_bytes (x := [46])) (fun _ => ev_str (l := [46]) (by decide +kernel))) (by cases k <;> rfl))) ?_
  refine ex_step (ex1_assign (x := lsV k [[]]) (ev_list (evl_cons (ev_pre0 (σ₁ := []) T ev_name (by simp)) evl_nil))) ?_
  refine ex_step (ex1_assign (ev_call 2 (evl_cons ev_name (evl_cons ev_name evl_nil)) (c_begin H T))) ?_
  refine ex_step (ex1_assign (x := tdsV k [toldOf LS0]) (ev_list (evl_cons (ev_call 4 (evl_cons ev_name evl_nil) (d_told H T [] LS0 (gi_sz ⟨_, gi0⟩ (by decide)))) evl_nil))) ?_
  refine ex_if (b := false) (evb_eq (evb_not (evb_val rfl (ev_call 10 (evl_cons ev_name (evl_cons ev_name (evl_cons ev_name (evl_cons ev_name evl_nil)))) (d_right H T C wi0 (by decide) _)) tr_bool)) rfl) (fun h => nomatch h) (fun _ => ?_)
  show Ex g _ _ _ _ (cells k w0) _
  refine ex_forj (xs := xs.map V.int) (fun i => [("stops", tdsV k (wA k xs i).stops), ("held", .cell (wA k xs i).J.length), ("parts", lsV k (wA k xs i).parts), ("dot", .tx k [46]), ("slash", .tx k [47]), ("octets", .bool (k == .b))]) (fun i => cells k (wA k xs i)) (fun _ => True) [] (cells k (wA k xs xs.length)) (src_list (ev_eq (ev_slcL (l := ns.map V.int) ev_name evp_none (evp_some ev_int) (by rw [List.length_map]; omega)) (by rw [hpsl])) (.inl rfl)) (sub_of ⟨rfl, rfl, rfl, rfl, rfl, rfl, trivial⟩) trivial (fun i y hy _ => ?_) (fun _ => ⟨?_, sub_of trivial⟩) ?_
  · rw [List.getElem?_map] at hy
    obtain ⟨x, hx, rfl⟩ := Option.map_eq_some_iff.mp hy
    have hi := (List.getElem?_eq_some_iff.mp hx).1
    have hw := hall i (by omega)
    have hw' := hall (i + 1) (by omega)
    rw [wA_succ hx] at hw' ⊢
    have hi20 : i < 20 := by omega
    generalize wA k xs i = w at hw hw' ⊢
    have hst : (stW k w x).stops = w.stops ++ [toldOf (stW k w x).s] := by
      unfold stW
      split
      · rfl
      · split <;> rfl
    have z1 : Sz w.s := (gi_sz hw.gi (by have := hw.plen; omega)).toSz
    have z0 : Sz LS0 := (gi_sz ⟨_, gi0⟩ (by decide)).toSz
    have z2 : SzT (stW k w x).s := gi_sz hw'.gi (by have := hw'.plen; omega)
    have hpl : w.parts.length ≤ 1000 := by have h1 := hw.tot; have h2 := tot_length w.parts; omega
    have hsl : w.stops.length ≤ 1000 := by have := hw.slen; omega
    have hlp : w.parts.getLast? = some (lastP w.parts) := by
      unfold lastP
      rw [List.getLastD_eq_getLast?, List.getLast?_eq_some_getLast hw.ne]; rfl
    have hlpt : (lastP w.parts).length ≤ 1000 := by
      have h1 := tot_mem (List.mem_of_getLast? hlp)
      have h2 := hw.tot
      omega
    refine ⟨_, asg_name, ?_⟩
    refine ex_step (ex1_assign (x := .int (figOf x : Nat)) (ev_eq (ev_bin (ev_blt (evl_cons ev_name evl_nil) op_abs) ev_int (op_mod_int (by decide))) (by unfold figOf; congr 1))) ?_
    have hf := codeOf_lt (figOf x) (by unfold figOf; omega)
    refine ex_ifj (ρ' := [("held", .cell (stW k w x).J.length), ("parts", lsV k (stW k w x).parts), ("stops", tdsV k w.stops), ("dot", .tx k [46]), ("slash", .tx k [47]), ("octets", .bool (k == .b))]) (σ' := cells k (stW k w x)) (evb_cmp (ev_bin ev_name ev_int (op_mod_int (by decide))) ev_int op_eq_int) (fun h => ?_) (fun h => ?_) ?_
    · have h8 : figOf x % 8 = 0 := by
        have : ((figOf x : Int) % 8) = 0 := by simpa using h
        omega
      have e : stW k w x = ⟨w.J, if tailOf w.s ≠ [] then signS w.s 47 else w.s, w.parts ++ [[]], w.stops ++ [toldOf (if tailOf w.s ≠ [] then signS w.s 47 else w.s)]⟩ := by unfold stW; rw [if_pos h8]
      rw [e]
      refine ex_ifj (ρ' := [("held", .cell w.J.length), ("parts", lsV k w.parts), ("stops", tdsV k w.stops), ("dot", .tx k [46]), ("slash", .tx k [47]), ("octets", .bool (k == .b))]) (σ' := w.J ++ [.dict (heldV k (if tailOf w.s ≠ [] then signS w.s 47 else w.s))]) (evb_cmp (rdT (key := kTail) (t := toldOf w.s) (y := .tx k (tailOf w.s)) (ev_sub ev_name ev_neg1 (.lst (.inl rfl)) (op_item_last (.inl rfl) (by rw [List.getLast?_map, hw.last]; rfl) (by rw [List.length_map]; omega))) rfl (by decide +kernel)) (ev_pre0 (σ₁ := []) T ev_name (by simp)) op_ne_tx) (fun h => ?_) (fun h => ?_) ?_
      · have ht : tailOf w.s ≠ [] := by simpa using h
        rw [if_pos ht]
        exact ex_step (ex1_expr (ev_call 6 (evl_cons ev_name (evl_cons ev_name evl_nil)) (d_sign H T w.J w.s z1 47))) (ex_nil ⟨_, rfl, sub_of ⟨rfl, rfl, rfl, rfl, rfl, rfl, trivial⟩⟩)
      · have ht : ¬ tailOf w.s ≠ [] := by simpa using h
        rw [if_neg ht]
        exact ex_nil ⟨_, rfl, sub_of ⟨rfl, rfl, rfl, rfl, rfl, rfl, trivial⟩⟩
      · refine ex_step (ex1_assign (x := lsV k (w.parts ++ [[]])) (ev_eq (ev_bin ev_name (ev_list (evl_cons (ev_pre0 (σ₁ := []) T ev_name (by simp)) evl_nil)) (op_add_list (.inl rfl) (.inl rfl) (by simp; omega))) (by unfold lsV; rw [List.map_append]; rfl))) ?_
        exact ex_nil ⟨_, rfl, sub_of ⟨rfl, rfl, rfl, rfl, rfl, rfl, trivial⟩⟩
    · have h8 : ¬ figOf x % 8 = 0 := by
        have : ¬ ((figOf x : Int) % 8) = 0 := by simpa using h
        omega
      refine ex_step (ex1_assign (x := .int (codeOf (figOf x) : Nat)) (ev_sub (ev_list (evl_cons ev_int (evl_cons ev_int (evl_cons ev_int (evl_cons ev_int (evl_cons ev_int (evl_cons ev_int (evl_cons ev_int (evl_cons (ev_bin ev_name ev_int (op_div_int (by decide) (by decide))) evl_nil))))))))) (ev_bin ev_name ev_int (op_mod_int (by decide))) (.lst (.inl rfl)) (op_item_list (.inl rfl) (by omega) (by omega) (code_at (figOf x))))) ?_
      refine ex_step (ex1_assign (x := .tx k [sgnOf (figOf x)]) (ev_eq (ev_if (c := (k == .b)) (evb_val rfl ev_name tr_bool) (fun _ => ev_typecall (evl_cons (ev_list (evl_cons ev_name evl_nil)) evl_nil) (op_bytes1 (by omega) (by omega))) (fun _ => ev_blt (evl_cons ev_name evl_nil) (op_chr (by omega) (by omega)))) (by rw [Int.toNat_natCast]; cases k <;> rfl))) ?_
      have test : ((([sgnOf (figOf x)] : Oct) == [47]) && (lastP w.parts == [])) = decide (sgnOf (figOf x) = 47 ∧ lastP w.parts = []) := by
        rw [Bool.eq_iff_iff, Bool.and_eq_true, decide_eq_true_iff, beq_iff_eq, beq_iff_eq]
        exact ⟨fun h => ⟨(List.cons.inj h.1).1, h.2⟩, fun h => ⟨by rw [h.1], h.2⟩⟩
      by_cases hc : sgnOf (figOf x) = 47 ∧ lastP w.parts = []
      · have e : stW k w x = ⟨w.J ++ [.dict (heldV k w.s)], signS LS0 (sgnOf (figOf x)), w.parts.dropLast ++ [lastP w.parts ++ [sgnOf (figOf x)]], w.stops ++ [toldOf (signS LS0 (sgnOf (figOf x)))]⟩ := by unfold stW; rw [if_neg h8, if_pos hc]
        rw [e]
        rw [decide_eq_true hc] at test
        refine ex_if (b := true) (evb_eq (evb_and (evb_cmp ev_name ev_name op_eq_tx) fun _ => evb_cmp (ev_lastP ev_name hlp hpl) (ev_pre0 (σ₁ := []) T ev_name (by simp)) op_eq_tx) test) (fun _ => ?_) (fun h => nomatch h)
        show Ex g _ 11 (_ :: _) _ _ _
        refine ex_step (ex1_assign (ev_call 2 (evl_cons ev_name (evl_cons ev_name evl_nil)) (c_begin H T))) ?_
        refine ex_step (ex1_expr (ev_call 6 (evl_cons ev_name (evl_cons ev_name evl_nil)) (d_sign H T (cells k w) LS0 z0 (sgnOf (figOf x))))) ?_
        refine ex_step (ex1_assign (ev_parts T ev_name ev_name ev_name hlp hpl hlpt)) ?_
        exact ex_nil ⟨_, rfl, sub_of ⟨rfl, rfl, rfl, rfl, rfl, rfl, trivial⟩⟩
      · have e : stW k w x = ⟨w.J, signS w.s (sgnOf (figOf x)), w.parts.dropLast ++ [lastP w.parts ++ [sgnOf (figOf x)]], w.stops ++ [toldOf (signS w.s (sgnOf (figOf x)))]⟩ := by unfold stW; rw [if_neg h8, if_neg hc]
        rw [e]
        rw [decide_eq_false hc] at test
        refine ex_if (b := false) (evb_eq (evb_and (evb_cmp ev_name ev_name op_eq_tx) fun _ => evb_cmp (ev_lastP ev_name hlp hpl) (ev_pre0 (σ₁ := []) T ev_name (by simp)) op_eq_tx) test) (fun h => nomatch h) (fun _ => ?_)
        show Ex g _ 11 (_ :: _) _ _ _
        refine ex_step (ex1_expr (ev_call 6 (evl_cons ev_name (evl_cons ev_name evl_nil)) (d_sign H T w.J w.s z1 (sgnOf (figOf x))))) ?_
        refine ex_step (ex1_assign (ev_parts T ev_name ev_name ev_name hlp hpl hlpt)) ?_
        exact ex_nil ⟨_, rfl, sub_of ⟨rfl, rfl, rfl, rfl, rfl, rfl, trivial⟩⟩
    · refine ex_step (ex1_assign (x := tdsV k (stW k w x).stops) (ev_eq (ev_bin ev_name (ev_list (evl_cons (ev_call 4 (evl_cons ev_name evl_nil) (d_told H T (stW k w x).J (stW k w x).s z2)) evl_nil)) (op_add_list (.inl rfl) (.inl rfl) (by simp; omega))) (by rw [hst]; unfold tdsV; rw [List.map_append]; rfl))) ?_
      refine ex_if (b := false) (evb_eq (evb_not (evb_val rfl (ev_call 10 (evl_cons ev_name (evl_cons ev_name (evl_cons ev_name (evl_cons ev_name evl_nil)))) (d_right H T C hw' (by omega) _)) tr_bool)) rfl) (fun h => nomatch h) (fun _ => ?_)
      exact ex_nil (.nx trivial (sub_of ⟨rfl, rfl, rfl, rfl, rfl, rfl, trivial⟩))
  · rw [List.length_map]
  · exact ex_ret ev_bool ret_end
end
end Mine
end
section
open PySem PySem.W PyProof.Rows PySem.Calls PySem.SeqAt
set_option Elab.async false
set_option linter.unusedVariables false
set_option linter.unusedSectionVars false
set_option maxRecDepth 100000
namespace Mine
noncomputable def R0 (hb : Heap) : RS := ⟨fun b o => hb.get? b = some o, fun _ _ => False⟩
noncomputable def P0 (hb : Heap) : PS := fun b o => hb.get? b = some o
theorem Inv.start {g : Glo} {L : Addr} {s₀ s : Shared} {env' : Env} {sc : Scope} {binds : List (Str × Value)} {ρ' : Loc} (h0 : s₀.heap = g.hb) (he : env'.scope = sc) (hL : env'.locals = L) (hc : env'.cells = cellsFrom (s₀.heap.objs.size + 1) sc.names [])
    (hl : L = s₀.heap.objs.size)
    (x : InCallC s₀ L (bindL env'.kindOf binds fun _ => none) env'.cells (bindC env'.kindOf binds fun _ => none) s) (hb : Binds g (P0 g.hb) [] binds ρ') (hv : ∀ b ∈ binds, isVar sc b.1 = true) :
    Inv g (R0 g.hb) (P0 g.hb) [] env' ρ' [] s.heap := by
  have keep : ∀ b o, g.hb.get? b = some o → s.heap.get? b = some o := fun b o e => x.toInCall.keep b o (by rw [h0]; exact e)
  have new : ∀ a, slot env' a → g.hb.get? a = none := by
    intro a ha
    cases e : g.hb.get? a with
    | none => rfl
    | some o =>
      have hlt := Heap.lt_size e
      rw [← h0] at hlt
      rcases ha with rfl | ⟨z, hz, hzc⟩
      · rw [hL, hl] at hlt; exact absurd hlt (Nat.lt_irrefl _)
      · have := x.above z a (mem_of_lookup hzc)
        rw [hl] at this
        exact absurd (Nat.lt_trans hlt this) (Nat.lt_irrefl _)
  have cel : ∀ z, env'.kindOf z = some .cell → ∃ c, env'.cells.lookup z = some c := by
    intro z hz
    have : (env'.cells.lookup z).isSome = true := by
      rw [hc]
      refine cellsFrom_some _ _ _ (.inr (mem_of_lookup ?_))
      rw [← he]; exact hz
    exact Option.isSome_iff_exists.mp this
  refine
  { keepR := fun b o r => keep _ _ r, keepU := fun b o u => u.elim, part := fun b o o' _ u => u.elim, keepP := fun b o p => keep _ _ p, base := fun b o e => e, sep := fun b o o' p _ => ⟨o, p⟩, loc := ?_, cel := ?_, one := ?_, nloc := ?_, offP := ?_, offR := ?_, offD := fun a _ hd => by simp at hd, dP := fun a o hd => by simp at hd, dR := fun a o hd => by simp at hd, dN := List.nodup_nil, len := rfl, objs := fun i a o h1 => by simp at h1 }
  · refine ⟨_, by rw [hL]; exact x.toInCall.ns, fun z y hz => ?_⟩
    obtain ⟨v, hm, hsv⟩ := hb.sees z y hz
    refine ⟨v, hsv, ?_⟩
    rcases isVar_kind (hv _ hm) with hk | hk
    · have hk' : env'.kindOf z = some .local := by show env'.scope.names.lookup z = _; rw [he]; exact hk
      exact .inl ⟨hk', bindL_at _ _ hb.nodup hm hk'⟩
    · have hk' : env'.kindOf z = some .cell := by show env'.scope.names.lookup z = _; rw [he]; exact hk
      obtain ⟨c, hcz⟩ := cel z hk'
      refine .inr (.inl ⟨hk', c, hcz, ?_⟩)
      have := x.cell z c hcz
      rwa [bindC_at _ _ hb.nodup hm hk'] at this
  · intro z hz
    obtain ⟨c, hcz⟩ := cel z hz
    exact ⟨c, _, hcz, x.cell z c hcz⟩
  · intro z y c hz hy hzc hyc
    exact name_of_addr x.apart (mem_of_lookup hzc) (mem_of_lookup hyc)
  · intro z hz e
    have := x.above z _ (mem_of_lookup e)
    rw [hL] at this
    exact Nat.lt_irrefl _ this
  · intro a o ha p
    have p : g.hb.get? a = some o := p
    rw [new a ha] at p; cases p
  · intro a o ha q
    rcases q with q | q
    · have q : g.hb.get? a = some o := q
      rw [new a ha] at q; cases q
    · exact q
/-- a def, called from outside -/
theorem call_top {g : Glo} {n : Nat} {name : Str} {params : Arguments} {body : List Stmt} {scope : Scope} {pos : Pos} {args : List V} {vs : List Value} {s : Shared} {x : V} {σ' : List MO} {Q : Value → Shared → Prop} {E : Value → Shared → Prop} {a : Addr} (names : List Str)
    (hd : (⟨name, params, body, scope, pos⟩ : DefRec) ∈ recsOf g.p) (h0 : s.heap = g.hb) (ha : g.mg name = some (.ref a)) (hbind : ∀ pm cd doc vs, vs.length = args.length → bindArgs (docDef name params body scope pm cd doc) ⟨vs, []⟩ = pure (names.zip vs))
    (hvs : g.SeesL (P0 g.hb) [] vs args) (hbody : Ex g scope n body (names.zip args) [] (End x σ')) (hq : ∀ v P' δ' h' tk', (∀ b o, g.hb.get? b = some o → h'.get? b = some o) → g.Sees P' δ' v x → Q v { s with heap := h', toks := tk' })
    (hl : names.length = args.length := by rfl) (hn : names.Nodup := by decide +kernel) (hv : names.all (isVar scope) = true := by decide +kernel) (hco : scope.isCoroutine = false := by rfl) (hgen : scope.isGenerator = false := by rfl) (hk : scope.kind = .function := by rfl) (hm : n ≤ 100 := by decide) :
    wpAny (model g.prog g.w) callerA (call (.ref a) vs) Q E s := by
  obtain ⟨a', o, pm, code, doc, h1, h2, h3, h4⟩ := g.top.fn _ hd
  rw [ha] at h1
  cases h1
  have keepB : ∀ b o, g.hb.get? b = some o → s.heap.get? b = some o := fun b o e => by rw [h0]; exact e
  have hroom : callerA.depth < recursionLimit := by decide
  refine wpAny_call (codeAny_call_function hroom (keepB _ _ h2) h3 hco hgen rfl (h4.keeps keepB) ?_)
  have hlen := hvs.length
  rw [show bindArgs _ _ = _ from hbind pm code doc vs hlen]
  refine wpAny_pure ?_
  have hvar : ∀ b ∈ names.zip vs, isVar scope b.1 = true := fun b hb => List.all_eq_true.mp hv _ (List.of_mem_zip hb).1
  refine wpAny_newFunctionEnv_cells hk (fun b hb => ?_) (fun env' he s' x => ?_)
  · rcases isVar_kind (hvar b hb) with hk | hk
    · exact .inl hk
    · exact .inr ⟨hk, cellsFrom_some _ _ _ (.inr (mem_of_lookup hk))⟩
  · subst he
    refine ⟨g.top.nolimit.keeps fun b o e => x.toInCall.keep b o (keepB _ _ e), codeAny_func ?_⟩
    have e1 : (names.zip vs).map (·.1) = names := List.map_fst_zip (by omega)
    have e2 : (names.zip args).map (·.1) = names := List.map_fst_zip (by omega)
    have e3 : (names.zip args).map (·.2) = args := List.map_snd_zip (by omega)
    have hbs : Binds g (P0 g.hb) [] (names.zip vs) (names.zip args) := ⟨by rw [e1]; exact hn, fun z y e => by
      have := zip_sees (names.zip args) (by rw [e3]; exact hvs) e
      rwa [e2] at this⟩
    have J := Inv.start (g := g) (sc := scope) (L := s.heap.objs.size) (s₀ := s) h0 rfl rfl rfl rfl x hbs hvar
    obtain ⟨hh₂, tk₂, rfl⟩ := x.toInCall.same
    refine wpAny_mono (hbody.run _ _ (R0 g.hb) (P0 g.hb) [] { s with heap := hh₂, toks := tk₂ } (fun f s' => Q (match f with | .ret v => v | _ => .none) s') ⟨rfl, hk, rfl, rfl⟩ ⟨rfl, ?_, ?_, ⟨[_], _, rfl, rfl, .inl rfl, ⟨_, _, rfl, rfl⟩, fun e he => ?_⟩⟩ J ?_) (fun _ _ z => z) no_e
    · show 1 + claimMargin + 1 + n ≤ 900
      have : claimMargin = 300 := rfl
      omega
    · show 4 + 3 + 20 * n ≤ 9000
      omega
    · rw [List.mem_singleton.mp he]
      exact ⟨by show scope.kind ≠ _; rw [hk]; decide, _, rfl, .inl rfl⟩
    · rintro o (rfl | ⟨rfl, r, rfl⟩)
      · intro v P' δ' h' tk' le' pr' J' hs
        exact hq v P' δ' h' tk' (fun b o e => J'.keepR b o e) hs
      · intro P' δ' h' tk' le' pr' J'
        exact hq .none P' δ' h' tk' (fun b o e => J'.keepR b o e) .none
end Mine
end
section
open PySem PySem.W PyProof.Rows
set_option Elab.async false
namespace Mine
noncomputable def DefsInT (pr q : Program) : Prop := ∀ (i : Nat) (name : Str) (params : Arguments) (body : List Stmt) (decs : List Expr) (ret : Option Expr) (tps : List TypeParam) (scope : Scope) (ts : Option Scope) (bind : Str) (pos : Pos),
    pr.main.body[i]? = some (.FunctionDef name params body decs ret tps scope ts bind pos) → 9 ≤ i → (⟨name, params, body, scope, pos⟩ : DefRec) ∈ recsOf q
/-- a statement's def -/
noncomputable def defOf : Stmt → Option DefRec
  | .FunctionDef name params body _ _ _ scope _ _ pos => some ⟨name, params, body, scope, pos⟩
  | _ => none
theorem defs_in {pr q : Program} (h : (pr.main.body.drop 9).filterMap defOf = (recsOf q).drop 4) : DefsInT pr q := by
  intro i name params body decs ret tps scope ts bind pos h1 h2
  have hm : (⟨name, params, body, scope, pos⟩ : DefRec) ∈ (pr.main.body.drop 9).filterMap defOf := by
    refine List.mem_filterMap.mpr ⟨.FunctionDef name params body decs ret tps scope ts bind pos, List.mem_of_getElem? (i := i - 9) ?_, rfl⟩
    rw [List.getElem?_drop, show 9 + (i - 9) = i by omega]; exact h1
  rw [h] at hm
  exact List.mem_of_mem_drop hm
end Mine
end
section
open PySem PySem.W PyProof.Rows PySem.Calls PySem.SeqAt
set_option Elab.async false
set_option linter.unusedVariables false
set_option linter.unusedSectionVars false
set_option maxRecDepth 100000
namespace Mine
noncomputable def FreeIn (q : Program) (loose : List Str) (x : Str) : Prop := x ∉ startupNames ∧ x ∉ loose ∧ x ∉ (recsOf q).map (·.name) ∧ x ∉ (litsOf q).map (·.1) ∧ x ∉ (clssOf q loose).map (·.name)
theorem law_walk {q : Program} {loose : List Str} {XP : (Str → Option Value) → Heap → Prop} {YP : World → Heap → Prop} (hdefs : DefsInT pw q) (hfree : ∀ x ∈ bltNames, FreeIn q (looseW q loose) x)
    {name : Str} {params : Arguments} {body : List Stmt} {decs : List Expr} {ret : Option Expr} {tps : List TypeParam} {scope : Scope} {ts : Option Scope} {bind : Str} {pos : Pos} (h34 : pw.main.body[34]? = some (.FunctionDef name params body decs ret tps scope ts bind pos)) :
    WalkO q loose XP YP PySem.Challenge.rw_il0031_01.row.toRowW ⟨name, params, body, scope, pos⟩ [] fun f vs => PySem.call f vs := by
  intro w s₀ s₁ mg mb G Y a o pm cd doc dV kV ho hd hcd hD hmg hgn args vals as hpre hlay hrd hwl hlo
  have T := G.T
  let g : Glo := ⟨PySem.Challenge.rw_il0031_01.row.toRowW.prog, w, q, looseW q loose, _, mg, mb, s₁.heap, T⟩
  have H : Has g pw := ⟨hdefs, fun x hx => let ⟨h1, h2, h3, h4, h5⟩ := hfree x hx; T.free x h1 h2 h3 h4 h5⟩
  wrow_args hpre hlay hrd hwl hlo
  rename_i ns hs hlay0 hLy hr1 hl2 w4 w3 l vs as' hL ra w1 r0 hI hr hc1 hc2
  have hn : ns.length ≤ 63 := by omega
  have hlaw : ∃ σ', Ex g scope 11 body [("script", intsV ns)] [] (End (.bool true) σ') := by
    cases hk : ((ns.take 20).sum % 2 == 1) with
    | true => exact law_body H (k := .b) txops_b txcmp_b ns hn (by rw [hk]; rfl) name params body decs ret tps scope ts bind pos h34
    | false => exact law_body H (k := .s) txops_s txcmp_s ns hn (by rw [hk]; rfl) name params body decs ret tps scope ts bind pos h34
  obtain ⟨σ', hx⟩ := hlaw
  have hseen : g.SeesL (P0 g.hb) [] [.ref l] [intsV ns] := by
    refine .cons ?_ .nil
    obtain ⟨ol, hol, hcl, n, hdl⟩ := hL
    refine .mkList hol hcl hdl ⟨by rw [List.length_map]; exact hI.length, fun i v x hv hx => ?_⟩
    rw [List.getElem?_map] at hx
    obtain ⟨k, hk, rfl⟩ := Option.map_eq_some_iff.mp hx
    obtain ⟨t, rfl⟩ := hI.int_at i v hv
    rw [List.getD_eq_getElem?_getD, hk]
    exact .int k t
  have hres : ∀ v (P' : PS) (δ' : List Addr) (h' : Heap) (tk' : Nat), (∀ b o, g.hb.get? b = some o → h'.get? b = some o) → g.Sees P' δ' v (.bool true) →
      GoodWG PySem.Challenge.rw_il0031_01.row.claim (classAt s₀.heap) (ExcName.means s₀.heap) [ofPy (PyData.list (List.map PyData.int ns))] s₁ (.ok (.ret v)) { s₁ with heap := h', toks := tk' } := by
    intro v P' δ' h' tk' hk hv
    obtain rfl := hv.tells
    refine GoodW.toG ⟨.inl ⟨_, .bool true, [], rfl, ?_, .bool true, ?_, fun _ => ⟨List.nodup_nil, fun a ha => by simp at ha⟩⟩, hk, rfl, hgn⟩
    · intro cls; rfl
    · exact postW_of (by wrow_shape) (by wtm_val) (by w_fin)
  have hd34 := hdefs 34 name params body decs ret tps scope ts bind pos h34 (by decide)
  cases h34
  exact call_top (g := g) (n := 11) ["script"] hd34 rfl hmg (fun _ _ _ vs h => by obtain ⟨_, rfl⟩ := vlen1 h; rfl) hseen hx hres
end Mine
end
section
open PySem PySem.W PyProof.Rows
set_option Elab.async false
set_option maxRecDepth 100000 in
set_option maxHeartbeats 8000000 in
theorem PySem.Challenge.cw_il0031_01_holds : PySem.Challenge.rw_il0031_01.Holds := by
  w_on
  o_law
  o_head Hook.none
  case hw => w_witness2
  case hc =>
    refine Mine.law_walk (Mine.defs_in (by kernel_rfl)) ?_ (by rfl)
    unfold Mine.FreeIn; decide +kernel
#print axioms PySem.Challenge.cw_il0031_01_holds
end

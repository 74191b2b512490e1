import PyProof.Rows.All
import Wide.All
import Open.Line
import Wide.FinOn
import Lean
import PySem.Challenge.RW_il0031_02
section
open PySem PySem.W PyProof.Rows
set_option Elab.async false
set_option linter.unusedVariables false
namespace Mine

/-- the two kinds of text -/
inductive Kd where
  | s | b
  deriving DecidableEq

/-- values as trees; a cell is an object that may still change -/
inductive V where
  | none
  | bool (b : Bool)
  | int (i : Int)
  | tx (k : Kd) (l : List UInt8)
  | list (l : List V)
  | tup (l : List V)
  | fdict (l : List (Str × V))
  | cell (i : Nat)
  | ty (n : String)
  | fn (x : Str)

/-- what a cell holds -/
inductive MO where
  | dict (l : List (Str × V))
  | list (l : List V)

abbrev PS := Addr → Obj → Prop
/-- what stays as it is, and what stays so but for its slots -/
structure RS where
  ex : PS
  up : PS
noncomputable def RS.any (R : RS) : PS := fun b o => R.ex b o ∨ R.up b o
abbrev Loc := List (Str × V)

noncomputable def S8 (l : List UInt8) : Str := ⟨(l.map UInt8.toNat).toArray⟩

/-- a value seen as a tree -/
inductive Sees (prog : Program) (w : World) (mg : Str → Option Value) (P : PS) (δ : List Addr) : Value → V → Prop
  | none : Sees prog w mg P δ .none .none
  | bool (b : Bool) : Sees prog w mg P δ (.bool b) (.bool b)
  | int (i : Int) (t : Tok) : Sees prog w mg P δ (.int i t) (.int i)
  | str (l : List UInt8) (t : Tok) : Sees prog w mg P δ (.str (S8 l) t) (.tx .s l)
  | bytes (l : List UInt8) (t : Tok) : Sees prog w mg P δ (.bytes l.toArray t) (.tx .b l)
  | list (a : Addr) (o : Obj) (vs : List Value) (n : Nat) (xs : List V) : P a o → o.cls = .type "list" → o.data = .seq vs.toArray n → vs.length = xs.length → (∀ (i : Nat) v x, vs[i]? = some v → xs[i]? = some x → Sees prog w mg P δ v x) → Sees prog w mg P δ (.ref a) (.list xs)
  | tup (a : Addr) (o : Obj) (vs : List Value) (n : Nat) (xs : List V) : P a o → o.cls = .type "tuple" → o.data = .seq vs.toArray n → vs.length = xs.length → (∀ (i : Nat) v x, vs[i]? = some v → xs[i]? = some x → Sees prog w mg P δ v x) → Sees prog w mg P δ (.ref a) (.tup xs)
  | fdict (a : Addr) (o : Obj) (kvs : List (Str × Value)) (xs : List (Str × V)) : P a o → o.IsDictOf (strKind prog w) kvs → kvs.map (·.1) = xs.map (·.1) → (∀ (i : Nat) v x, kvs[i]? = some v → xs[i]? = some x → Sees prog w mg P δ v.2 x.2) → Sees prog w mg P δ (.ref a) (.fdict xs)
  | cell (a : Addr) (i : Nat) : δ[i]? = some a → Sees prog w mg P δ (.ref a) (.cell i)
  | ty (n : String) : Sees prog w mg P δ (.type n) (.ty n)
  | fn (x : Str) (a : Addr) : mg x = some (.ref a) → Sees prog w mg P δ (.ref a) (.fn x)

noncomputable def SeesL (prog : Program) (w : World) (mg : Str → Option Value) (P : PS) (δ : List Addr) (vs : List Value) (xs : List V) : Prop :=
  vs.length = xs.length ∧ ∀ (i : Nat) v x, vs[i]? = some v → xs[i]? = some x → Sees prog w mg P δ v x
noncomputable def SeesD (prog : Program) (w : World) (mg : Str → Option Value) (P : PS) (δ : List Addr) (vs : List (Str × Value)) (xs : List (Str × V)) : Prop :=
  vs.map (·.1) = xs.map (·.1) ∧ ∀ (i : Nat) v x, vs[i]? = some v → xs[i]? = some x → Sees prog w mg P δ v.2 x.2

section
variable {prog : Program} {w : World} {mg : Str → Option Value} {P P' : PS} {δ δ' : List Addr}
theorem Sees.mkList {a : Addr} {o : Obj} {vs : List Value} {n : Nat} {xs : List V} (h : P a o) (hc : o.cls = .type "list") (hd : o.data = .seq vs.toArray n) (hs : SeesL prog w mg P δ vs xs) : Sees prog w mg P δ (.ref a) (.list xs) :=
  .list a o vs n xs h hc hd hs.1 hs.2
theorem Sees.mkTup {a : Addr} {o : Obj} {vs : List Value} {n : Nat} {xs : List V} (h : P a o) (hc : o.cls = .type "tuple") (hd : o.data = .seq vs.toArray n) (hs : SeesL prog w mg P δ vs xs) : Sees prog w mg P δ (.ref a) (.tup xs) :=
  .tup a o vs n xs h hc hd hs.1 hs.2
/-- all that a tree tells of its value, at once -/
noncomputable def Tells (prog : Program) (w : World) (mg : Str → Option Value) (P : PS) (δ : List Addr) (v : Value) : V → Prop
  | .none => v = .none
  | .bool b => v = .bool b
  | .int i => ∃ t, v = .int i t
  | .tx .s l => ∃ t, v = .str (S8 l) t
  | .tx .b l => ∃ t, v = .bytes l.toArray t
  | .list xs => ∃ a o vs n, v = .ref a ∧ P a o ∧ o.cls = .type "list" ∧ o.data = .seq (vs : List Value).toArray n ∧ SeesL prog w mg P δ vs xs
  | .tup xs => ∃ a o vs n, v = .ref a ∧ P a o ∧ o.cls = .type "tuple" ∧ o.data = .seq (vs : List Value).toArray n ∧ SeesL prog w mg P δ vs xs
  | .fdict xs => ∃ a o kvs, v = .ref a ∧ P a o ∧ o.IsDictOf (strKind prog w) kvs ∧ SeesD prog w mg P δ kvs xs
  | .cell i => ∃ a, v = .ref a ∧ δ[i]? = some a
  | .ty n => v = .type n
  | .fn x => ∃ a, v = .ref a ∧ mg x = some (.ref a)
theorem Sees.tells {v : Value} {x : V} (h : Sees prog w mg P δ v x) : Tells prog w mg P δ v x := by
  induction h with
  | none => exact rfl
  | bool b => exact rfl
  | int i t => exact ⟨t, rfl⟩
  | str l t => exact ⟨t, rfl⟩
  | bytes l t => exact ⟨t, rfl⟩
  | list a o vs n xs h1 h2 h3 h4 h5 _ => exact ⟨a, o, vs, n, rfl, h1, h2, h3, h4, h5⟩
  | tup a o vs n xs h1 h2 h3 h4 h5 _ => exact ⟨a, o, vs, n, rfl, h1, h2, h3, h4, h5⟩
  | fdict a o kvs xs h1 h2 h3 h4 _ => exact ⟨a, o, kvs, rfl, h1, h2, h3, h4⟩
  | cell a i e => exact ⟨a, rfl, e⟩
  | ty n => exact rfl
  | fn x a e => exact ⟨a, rfl, e⟩
theorem get_prefix {α : Type} {l l' : List α} (h : l <+: l') {i : Nat} {a : α} (e : l[i]? = some a) : l'[i]? = some a := by
  obtain ⟨t, rfl⟩ := h
  have hi : i < l.length := (List.getElem?_eq_some_iff.mp e).1
  rw [List.getElem?_append_left hi]; exact e
theorem Sees.mono (hP : ∀ b o, P b o → P' b o) (hδ : δ <+: δ') {v : Value} {x : V} (h : Sees prog w mg P δ v x) : Sees prog w mg P' δ' v x := by
  induction h with
  | none => exact .none
  | bool b => exact .bool b
  | int i t => exact .int i t
  | str l t => exact .str l t
  | bytes l t => exact .bytes l t
  | list a o vs n xs h1 h2 h3 h4 _ ih => exact .list a o vs n xs (hP _ _ h1) h2 h3 h4 ih
  | tup a o vs n xs h1 h2 h3 h4 _ ih => exact .tup a o vs n xs (hP _ _ h1) h2 h3 h4 ih
  | fdict a o kvs xs h1 h2 h3 _ ih => exact .fdict a o kvs xs (hP _ _ h1) h2 h3 ih
  | cell a i e => exact .cell a i (get_prefix hδ e)
  | ty n => exact .ty n
  | fn x a e => exact .fn x a e
theorem SeesL.mono {vs : List Value} {xs : List V} (h : SeesL prog w mg P δ vs xs) (hP : ∀ b o, P b o → P' b o) (hδ : δ <+: δ') : SeesL prog w mg P' δ' vs xs := ⟨h.1, fun i v x a b => (h.2 i v x a b).mono hP hδ⟩
theorem SeesD.mono {vs : List (Str × Value)} {xs : List (Str × V)} (h : SeesD prog w mg P δ vs xs) (hP : ∀ b o, P b o → P' b o) (hδ : δ <+: δ') : SeesD prog w mg P' δ' vs xs := ⟨h.1, fun i v x a b => (h.2 i v x a b).mono hP hδ⟩
theorem SeesL.length {vs : List Value} {xs : List V} (h : SeesL prog w mg P δ vs xs) : vs.length = xs.length := h.1
theorem SeesL.nil : SeesL prog w mg P δ [] [] := ⟨rfl, fun _ _ _ e => by simp at e⟩
theorem SeesL.cons {v : Value} {x : V} {vs : List Value} {xs : List V} (h : Sees prog w mg P δ v x) (t : SeesL prog w mg P δ vs xs) : SeesL prog w mg P δ (v :: vs) (x :: xs) :=
  ⟨congrArg Nat.succ t.1, fun i u y a b => match i, a, b with
    | 0, a, b => Option.some.inj a ▸ Option.some.inj b ▸ h
    | i + 1, a, b => t.2 i u y (by simpa using a) (by simpa using b)⟩
theorem SeesL.cons_inv {us : List Value} {x : V} {xs : List V} (h : SeesL prog w mg P δ us (x :: xs)) : ∃ v vs, us = v :: vs ∧ Sees prog w mg P δ v x ∧ SeesL prog w mg P δ vs xs := by
  obtain ⟨h1, h2⟩ := h
  cases us with
  | nil => cases h1
  | cons v vs => exact ⟨v, vs, rfl, h2 0 v x rfl rfl, Nat.succ.inj h1, fun i u y a b => h2 (i + 1) u y (by simpa using a) (by simpa using b)⟩
theorem SeesL.nil_inv {us : List Value} (h : SeesL prog w mg P δ us []) : us = [] := List.length_eq_zero_iff.mp h.1
theorem SeesL.one {us : List Value} {x : V} (h : SeesL prog w mg P δ us [x]) : ∃ v, us = [v] ∧ Sees prog w mg P δ v x := by
  obtain ⟨v, vs, rfl, h1, h2⟩ := h.cons_inv
  exact ⟨v, by rw [h2.nil_inv], h1⟩
theorem SeesL.two {us : List Value} {x y : V} (h : SeesL prog w mg P δ us [x, y]) : ∃ v u, us = [v, u] ∧ Sees prog w mg P δ v x ∧ Sees prog w mg P δ u y := by
  obtain ⟨v, vs, rfl, h1, h2⟩ := h.cons_inv
  obtain ⟨u, rfl, h3⟩ := h2.one
  exact ⟨v, u, rfl, h1, h3⟩
theorem SeesL.get {vs : List Value} {xs : List V} (h : SeesL prog w mg P δ vs xs) {i : Nat} {x : V} (e : xs[i]? = some x) : ∃ v, vs[i]? = some v ∧ Sees prog w mg P δ v x := by
  have hi : i < vs.length := by rw [h.1]; exact (List.getElem?_eq_some_iff.mp e).1
  exact ⟨vs[i], by simp [hi], h.2 i _ x (by simp [hi]) e⟩
theorem SeesL.append {vs us : List Value} {xs ys : List V} (h : SeesL prog w mg P δ vs xs) (k : SeesL prog w mg P δ us ys) : SeesL prog w mg P δ (vs ++ us) (xs ++ ys) := by
  refine ⟨by rw [List.length_append, List.length_append, h.1, k.1], fun i v x a b => ?_⟩
  by_cases hi : i < vs.length
  · rw [List.getElem?_append_left hi] at a
    rw [List.getElem?_append_left (h.1 ▸ hi)] at b
    exact h.2 i v x a b
  · rw [List.getElem?_append_right (Nat.le_of_not_lt hi)] at a
    rw [List.getElem?_append_right (h.1 ▸ Nat.le_of_not_lt hi), ← h.1] at b
    exact k.2 _ v x a b
theorem SeesL.take (n : Nat) {vs : List Value} {xs : List V} (h : SeesL prog w mg P δ vs xs) : SeesL prog w mg P δ (vs.take n) (xs.take n) := by
  refine ⟨by rw [List.length_take, List.length_take, h.1], fun i v x a b => ?_⟩
  rw [List.getElem?_take] at a b
  split at a
  · rename_i hi
    rw [if_pos hi] at b
    exact h.2 i v x a b
  · cases a
theorem SeesL.drop (n : Nat) {vs : List Value} {xs : List V} (h : SeesL prog w mg P δ vs xs) : SeesL prog w mg P δ (vs.drop n) (xs.drop n) := by
  refine ⟨by rw [List.length_drop, List.length_drop, h.1], fun i v x a b => ?_⟩
  rw [List.getElem?_drop] at a b
  exact h.2 _ v x a b
theorem lookup_at {α : Type} {k : Str} {x : α} : ∀ {xs : List (Str × α)}, xs.lookup k = some x → ∃ i : Nat, xs[i]? = some (k, x) ∧ ∀ j : Nat, j < i → ∀ y, xs[j]? = some y → y.1 ≠ k := by
  intro xs
  induction xs with
  | nil => intro e; cases e
  | cons p r ih =>
    obtain ⟨k', y⟩ := p
    intro e
    rw [List.lookup_cons] at e
    by_cases hk : k = k'
    · subst hk
      simp only [beq_self_eq_true] at e
      cases e
      exact ⟨0, rfl, fun j hj => absurd hj (Nat.not_lt_zero _)⟩
    · have hb : (k == k') = false := by simpa using hk
      rw [hb] at e
      obtain ⟨i, h1, h2⟩ := ih e
      refine ⟨i + 1, by simpa using h1, fun j hj y hy => ?_⟩
      cases j with
      | zero => cases hy; exact fun q => hk q.symm
      | succ j => exact h2 j (Nat.lt_of_succ_lt_succ hj) y (by simpa using hy)
theorem SeesD.valueAt {k : Str} {x : V} {vs : List (Str × Value)} {xs : List (Str × V)} (h : SeesD prog w mg P δ vs xs) (e : xs.lookup k = some x) : ∃ v, PySem.valueAt vs k = some v ∧ Sees prog w mg P δ v x := by
  obtain ⟨i, h1, h2⟩ := lookup_at e
  have hl : vs.length = xs.length := by have := congrArg List.length h.1; simpa using this
  have hi : i < vs.length := by rw [hl]; exact (List.getElem?_eq_some_iff.mp h1).1
  have key : ∀ j : Nat, j < vs.length → ∀ v y, vs[j]? = some v → xs[j]? = some y → v.1 = y.1 := by
    intro j hj v y a b
    have : (vs.map (·.1))[j]? = (xs.map (·.1))[j]? := by rw [h.1]
    rw [List.getElem?_map, List.getElem?_map, a, b] at this
    exact Option.some.inj this
  have hv : vs[i]? = some vs[i] := by simp [hi]
  refine ⟨vs[i].2, ?_, h.2 i _ _ hv h1⟩
  have hk := key i hi _ _ hv h1
  unfold PySem.valueAt
  have : vs.find? (fun kv => decide (kv.1 = k)) = some vs[i] := by
    rw [List.find?_eq_some_iff_getElem]
    refine ⟨by simpa using hk, i, hi, rfl, fun j hj => ?_⟩
    have hj' : j < vs.length := Nat.lt_trans hj hi
    have hjx : j < xs.length := hl ▸ hj'
    have e1 := key j hj' vs[j] xs[j] (by simp [hj']) (by simp [hjx])
    have e2 := h2 j hj xs[j] (by simp [hjx])
    simpa [e1] using e2
  rw [this]; rfl
end

/-- the facts of the top -/
structure Glo where
  prog : Program
  w : World
  p : Program
  loose : List Str
  mean : ExcName → Option Value
  mg : Str → Option Value
  mb : Str → Option Value
  hb : Heap
  top : Top p loose mean mg mb hb

abbrev Glo.Sees (g : Glo) (P : PS) (δ : List Addr) := Mine.Sees g.prog g.w g.mg P δ
abbrev Glo.SeesL (g : Glo) (P : PS) (δ : List Addr) := Mine.SeesL g.prog g.w g.mg P δ
abbrev Glo.SeesD (g : Glo) (P : PS) (δ : List Addr) := Mine.SeesD g.prog g.w g.mg P δ

/-- the slots of a frame that may change: its names' table and its own captured names -/
noncomputable def slot (env : Env) (a : Addr) : Prop := a = env.locals ∨ ∃ x, env.kindOf x = some .cell ∧ env.cells.lookup x = some a

/-- where a name's value lies -/
noncomputable def Lies (env : Env) (R : RS) (h : Heap) (m : Str → Option Value) (x : Str) (v : Value) : Prop :=
  (env.kindOf x = some .local ∧ m x = some v) ∨
  (env.kindOf x = some .cell ∧ ∃ c, env.cells.lookup x = some c ∧ h.IsCell c (some v)) ∨
  (env.kindOf x = some .free ∧ ∃ c o, env.cells.lookup x = some c ∧ R.any c o ∧ o.data = .cell (some v))

noncomputable def MSees (g : Glo) (P : PS) (δ : List Addr) (h : Heap) (a : Addr) : MO → Prop
  | .dict xs => ∃ kvs, h.DictOf (strKind g.prog g.w) a kvs ∧ g.SeesD P δ kvs xs
  | .list xs => ∃ vs : List Value, h.PlainList a vs.toArray ∧ g.SeesL P δ vs xs

structure EnvOk (env : Env) (sc : Scope) : Prop where
  scope : env.scope = sc
  kind : sc.kind = .function
  globals : env.globals = mainGlobals
  builtins : env.builtins = builtinsNs

structure Inv (g : Glo) (R : RS) (P : PS) (δ : List Addr) (env : Env) (ρ : Loc) (σ : List MO) (h : Heap) : Prop where
  keepR : ∀ b o, R.ex b o → h.get? b = some o
  keepU : ∀ b o, R.up b o → ∃ sl, h.get? b = some { o with slots := sl }
  part : ∀ b o o', R.ex b o → ¬ R.up b o'
  keepP : ∀ b o, P b o → h.get? b = some o
  base : ∀ b o, g.hb.get? b = some o → R.ex b o
  sep : ∀ b o o', P b o → R.any b o' → ∃ q, g.hb.get? b = some q
  loc : ∃ m, h.Ns env.locals m ∧ ∀ x y, ρ.lookup x = some y → ∃ v, g.Sees P δ v y ∧ Lies env R h m x v
  cel : ∀ x, env.kindOf x = some .cell → ∃ c ov, env.cells.lookup x = some c ∧ h.IsCell c ov
  one : ∀ x y c, env.kindOf x = some .cell → env.kindOf y = some .cell → env.cells.lookup x = some c → env.cells.lookup y = some c → x = y
  nloc : ∀ x, env.kindOf x = some .cell → env.cells.lookup x ≠ some env.locals
  offP : ∀ a o, slot env a → ¬ P a o
  offR : ∀ a o, slot env a → ¬ R.any a o
  offD : ∀ a, slot env a → a ∉ δ
  dP : ∀ a o, a ∈ δ → ¬ P a o
  dR : ∀ a o, a ∈ δ → ¬ R.any a o
  dN : δ.Nodup
  len : δ.length = σ.length
  objs : ∀ (i : Nat) a o, δ[i]? = some a → σ[i]? = some o → MSees g P δ h a o


section
variable {g : Glo} {R : RS} {P : PS} {δ : List Addr} {env : Env} {ρ : Loc} {σ : List MO} {h h' : Heap}

theorem MSees.mono {P' : PS} {δ' : List Addr} {a : Addr} {o : MO} (hP : ∀ b o, P b o → P' b o) (hδ : δ <+: δ') (hk : ∀ q, h.get? a = some q → h'.get? a = some q) (x : MSees g P δ h a o) : MSees g P' δ' h' a o := by
  cases o with
  | dict xs =>
    obtain ⟨kvs, ⟨o, es, ep, ho, r⟩, hs⟩ := x
    exact ⟨kvs, ⟨o, es, ep, hk _ ho, r⟩, hs.mono hP hδ⟩
  | list xs =>
    obtain ⟨vs, ⟨n, ho⟩, hs⟩ := x
    exact ⟨vs, ⟨n, hk _ ho⟩, hs.mono hP hδ⟩

theorem Lies.keeps {m : Str → Option Value} {x : Str} {v : Value} (hk : ∀ c, slot env c → ∀ q, h.get? c = some q → h'.get? c = some q) (l : Lies env R h m x v) : Lies env R h' m x v := by
  rcases l with l | ⟨h1, c, h2, o, ho, hd⟩ | l
  · exact .inl l
  · exact .inr (.inl ⟨h1, c, h2, o, hk c (.inr ⟨x, h1, h2⟩) _ ho, hd⟩)
  · exact .inr (.inr l)

/-- the heap may grow and change anywhere else -/
theorem Inv.keeps (I : Inv g R P δ env ρ σ h) (hk : ∀ b o, ((∃ q, R.any b q) ∨ (∃ q, P b q) ∨ b ∈ δ ∨ slot env b) → h.get? b = some o → h'.get? b = some o) : Inv g R P δ env ρ σ h' where
  keepR := fun b o r => hk b o (.inl ⟨o, .inl r⟩) (I.keepR b o r)
  keepU := fun b o r => let ⟨sl, e⟩ := I.keepU b o r; ⟨sl, hk b _ (.inl ⟨o, .inr r⟩) e⟩
  part := I.part
  keepP := fun b o r => hk b o (.inr (.inl ⟨o, r⟩)) (I.keepP b o r)
  base := I.base
  sep := I.sep
  loc := by
    obtain ⟨m, ⟨o, es, ep, ho, r⟩, hm⟩ := I.loc
    refine ⟨m, ⟨o, es, ep, hk _ _ (.inr (.inr (.inr (.inl rfl)))) ho, r⟩, fun x y e => ?_⟩
    obtain ⟨v, hs, hl⟩ := hm x y e
    exact ⟨v, hs, hl.keeps fun c hc q e => hk _ _ (.inr (.inr (.inr hc))) e⟩
  cel := fun x hx => by
    obtain ⟨c, ov, hc, o, ho, hd⟩ := I.cel x hx
    exact ⟨c, ov, hc, o, hk _ _ (.inr (.inr (.inr (.inr ⟨x, hx, hc⟩)))) ho, hd⟩
  one := I.one
  nloc := I.nloc
  offP := I.offP
  offR := I.offR
  offD := I.offD
  dP := I.dP
  dR := I.dR
  dN := I.dN
  len := I.len
  objs := fun i a o hi ho => (I.objs i a o hi ho).mono (fun _ _ z => z) (List.prefix_refl _) fun q e => hk _ _ (.inr (.inr (.inl (List.mem_of_getElem? hi)))) e

theorem Inv.grows (I : Inv g R P δ env ρ σ h) (hk : ∀ b o, h.get? b = some o → h'.get? b = some o) : Inv g R P δ env ρ σ h' := I.keeps fun b o _ e => hk b o e

/-- an address that is nobody's -/
structure Free (R : RS) (P : PS) (δ : List Addr) (env : Env) (a : Addr) : Prop where
  r : ∀ o, ¬ R.any a o
  p : ∀ o, ¬ P a o
  d : a ∉ δ
  s : ¬ slot env a

theorem Inv.slot_lt (I : Inv g R P δ env ρ σ h) {a : Addr} (hs : slot env a) : ∃ o, h.get? a = some o := by
  rcases hs with rfl | ⟨x, hx, hc⟩
  · obtain ⟨m, ⟨o, es, ep, ho, r⟩, hm⟩ := I.loc
    exact ⟨o, ho⟩
  · obtain ⟨c, ov, hc', o, ho, hd⟩ := I.cel x hx
    rw [hc] at hc'
    cases hc'
    exact ⟨o, ho⟩
theorem Inv.cell_lt (I : Inv g R P δ env ρ σ h) {a : Addr} (hs : a ∈ δ) : ∃ o, h.get? a = some o := by
  obtain ⟨i, hi⟩ := List.mem_iff_getElem?.mp hs
  have hlt : i < σ.length := I.len ▸ (List.getElem?_eq_some_iff.mp hi).1
  have := I.objs i a σ[i] hi (by simp [hlt])
  cases hq : σ[i] with
  | dict xs => rw [hq] at this; obtain ⟨kvs, ⟨o, es, ep, ho, r⟩, hs⟩ := this; exact ⟨o, ho⟩
  | list xs => rw [hq] at this; obtain ⟨vs, ⟨n, ho⟩, hs⟩ := this; exact ⟨_, ho⟩

theorem Inv.free (I : Inv g R P δ env ρ σ h) {a : Addr} (ha : h.get? a = none) : Free R P δ env a where
  r := fun o x => by
    rcases x with x | x
    · rw [I.keepR _ _ x] at ha; cases ha
    · obtain ⟨sl, e⟩ := I.keepU _ _ x; rw [e] at ha; cases ha
  p := fun o x => by rw [I.keepP _ _ x] at ha; cases ha
  d := fun x => by obtain ⟨o, ho⟩ := I.cell_lt x; rw [ho] at ha; cases ha
  s := fun x => by obtain ⟨o, ho⟩ := I.slot_lt x; rw [ho] at ha; cases ha

theorem get_size_none (h : Heap) : h.get? h.objs.size = none := by
  cases e : h.get? h.objs.size with
  | none => rfl
  | some o => exact absurd (Heap.lt_size e) (Nat.lt_irrefl _)

noncomputable def pinned (P : PS) (a : Addr) (o : Obj) : PS := fun b q => P b q ∨ (b = a ∧ q = o)

/-- an object that is nobody's is pinned: it stays as it is from now on -/
theorem Inv.pin (I : Inv g R P δ env ρ σ h) {a : Addr} {o : Obj} (hf : Free R P δ env a) (ho : h.get? a = some o) : Inv g R (pinned P a o) δ env ρ σ h where
  keepR := I.keepR
  keepU := I.keepU
  part := I.part
  keepP := fun b q x => x.elim (I.keepP b q) fun ⟨e1, e2⟩ => by rw [e1, e2]; exact ho
  base := I.base
  sep := fun b q q' x y => x.elim (fun z => I.sep b q q' z y) fun ⟨e1, _⟩ => absurd (e1 ▸ y) (hf.r q')
  loc := by
    obtain ⟨m, hn, hm⟩ := I.loc
    refine ⟨m, hn, fun x y e => ?_⟩
    obtain ⟨v, hs, hl⟩ := hm x y e
    exact ⟨v, hs.mono (fun _ _ z => .inl z) (List.prefix_refl _), hl⟩
  cel := I.cel
  one := I.one
  nloc := I.nloc
  offP := fun b q hb x => x.elim (I.offP b q hb) fun ⟨e1, _⟩ => hf.s (e1 ▸ hb)
  offR := I.offR
  offD := I.offD
  dP := fun b q hb x => x.elim (I.dP b q hb) fun ⟨e1, _⟩ => hf.d (e1 ▸ hb)
  dR := I.dR
  dN := I.dN
  len := I.len
  objs := fun i b q hi hq => (I.objs i b q hi hq).mono (fun _ _ z => .inl z) (List.prefix_refl _) fun _ e => e

theorem Free.keep {a : Addr} (x : Free R P δ env a) {b : Addr} (k : (∃ q, R.any b q) ∨ (∃ q, P b q) ∨ b ∈ δ ∨ slot env b) : b ≠ a := by
  rintro rfl
  rcases k with ⟨q, k⟩ | ⟨q, k⟩ | k | k
  · exact x.r _ k
  · exact x.p _ k
  · exact x.d k
  · exact x.s k

/-- a step that touches one free address alone -/
theorem Inv.sameBut (I : Inv g R P δ env ρ σ h) {a : Addr} (hf : Free R P δ env a) (hs : Heap.SameBut a h h') : Inv g R P δ env ρ σ h' :=
  I.keeps fun b o k e => (hs.2 b (hf.keep k)).trans e

/-- a new cell -/
theorem Inv.newCell (I : Inv g R P δ env ρ σ h) {a : Addr} {o : MO} (hf : Free R P δ env a) (ho : MSees g P δ h a o) : Inv g R P (δ ++ [a]) env ρ (σ ++ [o]) h where
  keepR := I.keepR
  keepU := I.keepU
  part := I.part
  keepP := I.keepP
  base := I.base
  sep := I.sep
  loc := by
    obtain ⟨m, hn, hm⟩ := I.loc
    refine ⟨m, hn, fun x y e => ?_⟩
    obtain ⟨v, hs, hl⟩ := hm x y e
    exact ⟨v, hs.mono (fun _ _ z => z) (List.prefix_append _ _), hl⟩
  cel := I.cel
  one := I.one
  nloc := I.nloc
  offP := I.offP
  offR := I.offR
  offD := fun b hb x => (List.mem_append.mp x).elim (I.offD b hb) fun z => hf.s (List.mem_singleton.mp z ▸ hb)
  dP := fun b q hb => (List.mem_append.mp hb).elim (fun z => I.dP b q z) fun z => List.mem_singleton.mp z ▸ hf.p q
  dR := fun b q hb => (List.mem_append.mp hb).elim (fun z => I.dR b q z) fun z => List.mem_singleton.mp z ▸ hf.r q
  dN := List.nodup_append.mpr ⟨I.dN, by simp, fun x hx y hy e => hf.d (List.mem_singleton.mp hy ▸ e ▸ hx)⟩
  len := by simp [I.len]
  objs := fun i b q hi hq => by
    by_cases hlt : i < δ.length
    · rw [List.getElem?_append_left hlt] at hi
      rw [List.getElem?_append_left (I.len ▸ hlt)] at hq
      exact (I.objs i b q hi hq).mono (fun _ _ z => z) (List.prefix_append _ _) fun _ e => e
    · have hge : δ.length ≤ i := Nat.le_of_not_lt hlt
      rw [List.getElem?_append_right hge] at hi
      rw [List.getElem?_append_right (I.len ▸ hge)] at hq
      have hi0 : i - δ.length = 0 := by
        cases hz : i - δ.length with
        | zero => rfl
        | succ n => rw [hz] at hi; simp at hi
      rw [hi0] at hi
      rw [← I.len, hi0] at hq
      cases hi
      cases hq
      exact ho.mono (fun _ _ z => z) (List.prefix_append _ _) fun _ e => e

/-- a cell changes -/
theorem Inv.setCell (I : Inv g R P δ env ρ σ h) {i : Nat} {a : Addr} {o : MO} (hi : δ[i]? = some a) (hs : Heap.SameBut a h h') (ho : MSees g P δ h' a o) : Inv g R P δ env ρ (σ.set i o) h' := by
  have ha : a ∈ δ := List.mem_of_getElem? hi
  refine
  { keepR := fun b q r => (hs.2 b ?_).trans (I.keepR b q r)
    keepU := fun b q r => let ⟨sl, e⟩ := I.keepU b q r; ⟨sl, (hs.2 b (by rintro rfl; exact I.dR _ _ ha (.inr r))).trans e⟩
    part := I.part
    keepP := fun b q r => (hs.2 b ?_).trans (I.keepP b q r)
    base := I.base
    sep := I.sep
    loc := ?_
    cel := ?_
    one := I.one
    nloc := I.nloc
    offP := I.offP
    offR := I.offR
    offD := I.offD
    dP := I.dP
    dR := I.dR
    dN := I.dN
    len := by simp [I.len]
    objs := ?_ }
  · rintro rfl; exact I.dR _ _ ha (.inl r)
  · rintro rfl; exact I.dP _ _ ha r
  · obtain ⟨m, ⟨q, es, ep, hq, r⟩, hm⟩ := I.loc
    refine ⟨m, ⟨q, es, ep, (hs.2 _ ?_).trans hq, r⟩, fun x y e => ?_⟩
    · rintro z; exact I.offD _ (.inl rfl) (z ▸ ha)
    · obtain ⟨v, hsv, hl⟩ := hm x y e
      exact ⟨v, hsv, hl.keeps fun c hc q e => (hs.2 c (by rintro rfl; exact I.offD _ hc ha)).trans e⟩
  · intro x hx
    obtain ⟨c, ov, hc, q, hq, hd⟩ := I.cel x hx
    exact ⟨c, ov, hc, q, (hs.2 c (by rintro rfl; exact I.offD _ (.inr ⟨x, hx, hc⟩) ha)).trans hq, hd⟩
  · intro j b q hj hq
    by_cases hij : i = j
    · subst hij
      rw [hi] at hj
      cases hj
      have hlt : i < σ.length := I.len ▸ (List.getElem?_eq_some_iff.mp hi).1
      rw [List.getElem?_set_self hlt] at hq
      cases hq
      exact ho
    · rw [List.getElem?_set_ne hij] at hq
      have hba : b ≠ a := by
        rintro rfl
        have h1 : i < δ.length := (List.getElem?_eq_some_iff.mp hi).1
        exact hij ((List.getElem?_inj h1 I.dN).mp (hi.trans hj.symm))
      exact (I.objs j b q hj hq).mono (fun _ _ z => z) (List.prefix_refl _) fun z e => (hs.2 b hba).trans e

/-- fewer names -/
theorem Inv.forget {ρ' : Loc} (I : Inv g R P δ env ρ σ h) (hsub : ∀ x y, ρ'.lookup x = some y → ρ.lookup x = some y) : Inv g R P δ env ρ' σ h :=
  { I with loc := let ⟨m, hn, hm⟩ := I.loc; ⟨m, hn, fun x y e => hm x y (hsub x y e)⟩ }
end
end Mine
end
section
open PySem PySem.W PyProof.Rows
set_option Elab.async false
namespace Mine
abbrev NoE : Value → Shared → Prop := fun _ _ => False

noncomputable def isVar (sc : Scope) (x : Str) : Bool := match sc.names.lookup x with
  | some .local | some .cell => true
  | _ => false
noncomputable def canRead (sc : Scope) (x : Str) : Bool := match sc.names.lookup x with
  | some .local | some .cell | some .free => !(x == ("__classdict__" : Str)) && !(x == ("__debug__" : Str))
  | _ => false

section
variable {g : Glo} {R : RS} {P : PS} {δ : List Addr} {env : Env} {ρ : Loc} {σ : List MO} {sc : Scope}
variable {M : Model} {A : Around} {s : Shared} {E : Value → Shared → Prop}

theorem wp_load {x : Str} {y : V} {Q : Value → Shared → Prop} (O : EnvOk env sc) (I : Inv g R P δ env ρ σ s.heap) (hk : canRead sc x = true) (hy : ρ.lookup x = some y)
    (h : ∀ v, g.Sees P δ v y → Q v s) : wpAny M A (loadName env x) Q E s := by
  obtain ⟨m, hn, hm⟩ := I.loc
  obtain ⟨v, hs, hl⟩ := hm x y hy
  have hkind : env.scope.kind = .function := by rw [O.scope]; exact O.kind
  rcases hl with ⟨h1, h2⟩ | ⟨h1, c, h2, h3⟩ | ⟨h1, c, o, h2, h3, h4⟩
  · exact wpAny_loadName_local hkind h1 hn h2 (h v hs)
  · exact wpAny_loadName_cell hkind h1 h2 h3 (h v hs)
  · refine wpAny_loadName_free hkind h1 h2 (by
      rcases h3 with h3 | h3
      · exact ⟨o, I.keepR _ _ h3, h4⟩
      · obtain ⟨sl, e⟩ := I.keepU _ _ h3; exact ⟨_, e, h4⟩) (h v hs) ?_
    have h1' : sc.names.lookup x = some .free := by rw [← O.scope]; exact h1
    unfold canRead at hk
    rw [h1'] at hk
    simpa using (Bool.and_eq_true_iff.mp hk).1

theorem wp_store {x : Str} {y : V} {v : Value} {Q : Unit → Shared → Prop} (O : EnvOk env sc) (I : Inv g R P δ env ρ σ s.heap) (hk : isVar sc x = true) (hv : g.Sees P δ v y)
    (h : ∀ h' tk', Inv g R P δ env ((x, y) :: ρ) σ h' → Q () { s with heap := h', toks := tk' }) : wpAny M A (storeName env x v) Q E s := by
  have hkind : env.scope.kind = .function := by rw [O.scope]; exact O.kind
  have hp : (env.scope.kind == .class || (env.scope.kind == .module && env.locals != env.globals)) = false := by rw [hkind]; rfl
  obtain ⟨m, hn, hm⟩ := I.loc
  unfold isVar at hk
  rw [← O.scope] at hk
  have hkk : env.kindOf x = some .local ∨ env.kindOf x = some .cell := by
    show env.scope.names.lookup x = _ ∨ env.scope.names.lookup x = _
    revert hk
    cases env.scope.names.lookup x with
    | none => intro hk; cases hk
    | some k => cases k <;> intro hk <;> first | exact .inl rfl | exact .inr rfl | cases hk
  rcases hkk with hl | hl
  · refine wpAny_storeName_local hl hn (fun h' hn' hs' => h h' _ ?_) hp
    have hk' : ∀ b o, ((∃ q, R.any b q) ∨ (∃ q, P b q) ∨ b ∈ δ ∨ (∃ z, env.kindOf z = some .cell ∧ env.cells.lookup z = some b)) → s.heap.get? b = some o → h'.get? b = some o := by
      intro b o k e
      refine (hs'.2 b ?_).trans e
      rintro rfl
      rcases k with ⟨q, k⟩ | ⟨q, k⟩ | k | ⟨z, hz, hc⟩
      · exact I.offR _ _ (.inl rfl) k
      · exact I.offP _ _ (.inl rfl) k
      · exact I.offD _ (.inl rfl) k
      · exact I.nloc z hz hc
    exact
    { keepR := fun b o r => hk' b o (.inl ⟨o, .inl r⟩) (I.keepR b o r)
      keepU := fun b o r => let ⟨sl, e⟩ := I.keepU b o r; ⟨sl, hk' b _ (.inl ⟨o, .inr r⟩) e⟩
      part := I.part
      keepP := fun b o r => hk' b o (.inr (.inl ⟨o, r⟩)) (I.keepP b o r)
      base := I.base
      sep := I.sep
      loc := ⟨_, hn', fun z u e => by
        rw [List.lookup_cons] at e
        by_cases hz : z = x
        · subst hz
          simp only [beq_self_eq_true] at e
          cases e
          exact ⟨v, hv, .inl ⟨hl, by simp⟩⟩
        · have hb : (z == x) = false := by simpa using hz
          rw [hb] at e
          obtain ⟨u', hsu, hlu⟩ := hm z u e
          refine ⟨u', hsu, ?_⟩
          rcases hlu with ⟨a, b⟩ | ⟨a, c, b, o, ho, hd⟩ | l
          · exact .inl ⟨a, by simp [hz, b]⟩
          · exact .inr (.inl ⟨a, c, b, o, hk' c o (.inr (.inr (.inr ⟨z, a, b⟩))) ho, hd⟩)
          · exact .inr (.inr l)⟩
      cel := fun z hz => by
        obtain ⟨c, ov, hc, o, ho, hd⟩ := I.cel z hz
        exact ⟨c, ov, hc, o, hk' c o (.inr (.inr (.inr ⟨z, hz, hc⟩))) ho, hd⟩
      one := I.one
      nloc := I.nloc
      offP := I.offP
      offR := I.offR
      offD := I.offD
      dP := I.dP
      dR := I.dR
      dN := I.dN
      len := I.len
      objs := fun i b q hi hq => (I.objs i b q hi hq).mono (fun _ _ z => z) (List.prefix_refl _) fun z e => hk' b z (.inr (.inr (.inl (List.mem_of_getElem? hi)))) e }
  · obtain ⟨c, ov, hc, hcv⟩ := I.cel x hl
    refine wpAny_storeName_cell hkind hl hc hcv (fun h' hv' hs' => h h' s.toks ?_)
    have hsl : slot env c := .inr ⟨x, hl, hc⟩
    have hk' : ∀ b o, ((∃ q, R.any b q) ∨ (∃ q, P b q) ∨ b ∈ δ ∨ b = env.locals ∨ (∃ z, z ≠ x ∧ env.kindOf z = some .cell ∧ env.cells.lookup z = some b)) → s.heap.get? b = some o → h'.get? b = some o := by
      intro b o k e
      refine (hs'.2 b ?_).trans e
      rintro rfl
      rcases k with ⟨q, k⟩ | ⟨q, k⟩ | k | k | ⟨z, hzx, hz, hzc⟩
      · exact I.offR _ _ hsl k
      · exact I.offP _ _ hsl k
      · exact I.offD _ hsl k
      · exact I.nloc x hl (k ▸ hc)
      · exact hzx (I.one z x _ hz hl hzc hc)
    exact
    { keepR := fun b o r => hk' b o (.inl ⟨o, .inl r⟩) (I.keepR b o r)
      keepU := fun b o r => let ⟨sl, e⟩ := I.keepU b o r; ⟨sl, hk' b _ (.inl ⟨o, .inr r⟩) e⟩
      part := I.part
      keepP := fun b o r => hk' b o (.inr (.inl ⟨o, r⟩)) (I.keepP b o r)
      base := I.base
      sep := I.sep
      loc := by
        obtain ⟨o, es, ep, ho, r⟩ := hn
        refine ⟨m, ⟨o, es, ep, hk' _ _ (.inr (.inr (.inr (.inl rfl)))) ho, r⟩, fun z u e => ?_⟩
        rw [List.lookup_cons] at e
        by_cases hz : z = x
        · subst hz
          simp only [beq_self_eq_true] at e
          cases e
          exact ⟨v, hv, .inr (.inl ⟨hl, c, hc, hv'⟩)⟩
        · have hb : (z == x) = false := by simpa using hz
          rw [hb] at e
          obtain ⟨u', hsu, hlu⟩ := hm z u e
          refine ⟨u', hsu, ?_⟩
          rcases hlu with l | ⟨a, c', b, o', ho', hd⟩ | l
          · exact .inl l
          · exact .inr (.inl ⟨a, c', b, o', hk' c' o' (.inr (.inr (.inr (.inr ⟨z, hz, a, b⟩)))) ho', hd⟩)
          · exact .inr (.inr l)
      cel := fun z hz => by
        by_cases hzx : z = x
        · subst hzx
          exact ⟨c, _, hc, hv'⟩
        · obtain ⟨c', ov', hc', o, ho, hd⟩ := I.cel z hz
          exact ⟨c', ov', hc', o, hk' c' o (.inr (.inr (.inr (.inr ⟨z, hzx, hz, hc'⟩)))) ho, hd⟩
      one := I.one
      nloc := I.nloc
      offP := I.offP
      offR := I.offR
      offD := I.offD
      dP := I.dP
      dR := I.dR
      dN := I.dN
      len := I.len
      objs := fun i b q hi hq => (I.objs i b q hi hq).mono (fun _ _ z => z) (List.prefix_refl _) fun z e => hk' b z (.inr (.inr (.inl (List.mem_of_getElem? hi)))) e }
end
end Mine
end
section
open PySem PySem.W PyProof.Rows
set_option Elab.async false
set_option linter.unusedVariables false
namespace Mine
structure AOk (A : Around) (n : Nat) (R : RS) (env : Env) : Prop where
  handled : A.handled = none
  depth : A.depth + n ≤ 900
  units : A.units + 20 * n ≤ 9000
  stack : ∃ l L, A.frames = some l ∧ env.frame = some L ∧ (L = env.locals ∨ ∃ o, R.up L o) ∧ (∃ e0 outer, l = e0 :: outer ∧ e0.frame = some L) ∧ ∀ e ∈ l, e.scope.kind ≠ .module ∧ ∃ L, e.frame = some L ∧ (L = env.locals ∨ ∃ o, R.up L o ∧ ∀ vs, o.data ≠ .fields vs)

/-- what a tree does -/
structure Run (g : Glo) (sc : Scope) (n : Nat) {α : Type} (t : Env → Sem α) (ρ : Loc) (σ : List MO) (S : PS → List Addr → α → Prop) (σ' : List MO) : Prop where
  run : ∀ (env : Env) (A : Around) (R : RS) (P : PS) (δ : List Addr) (s : Shared) (Q : α → Shared → Prop), EnvOk env sc → AOk A n R env → Inv g R P δ env ρ σ s.heap →
    (∀ v P' δ' h' tk', (∀ b o, P b o → P' b o) → δ <+: δ' → Inv g R P' δ' env ρ σ' h' → S P' δ' v → Q v { s with heap := h', toks := tk' }) →
    wpAny (model g.prog g.w) A (t env) Q NoE s

noncomputable def Ev (g : Glo) (sc : Scope) (n : Nat) (e : Expr) (ρ : Loc) (σ : List MO) (x : V) (σ' : List MO) : Prop := Run g sc n (eval e) ρ σ (fun P δ v => g.Sees P δ v x) σ'
noncomputable def EvB (g : Glo) (sc : Scope) (n : Nat) (e : Expr) (ρ : Loc) (σ : List MO) (b : Bool) (σ' : List MO) : Prop := Run g sc n (fun env => isTrue e env (eval e env)) ρ σ (fun _ _ r => r = b) σ'
noncomputable def EvL (g : Glo) (sc : Scope) (n : Nat) (pos : Pos) (es : List Expr) (ρ : Loc) (σ : List MO) (xs : List V) (σ' : List MO) : Prop :=
  Run g sc n (fun env => spliced (backTo pos (starEach es env))) ρ σ (fun P δ v => g.SeesL P δ v xs) σ'

/-- what a step upon values does -/
noncomputable def Op (g : Glo) (n : Nat) {α : Type} (σ : List MO) (xs : List V) (t : List Value → Sem α) (S : PS → List Addr → α → Prop) (σ' : List MO) : Prop :=
  ∀ (env : Env) (ρ : Loc) (A : Around) (R : RS) (P : PS) (δ : List Addr) (s : Shared) (Q : α → Shared → Prop) (vs : List Value), AOk A n R env → Inv g R P δ env ρ σ s.heap → g.SeesL P δ vs xs →
    (∀ v P' δ' h' tk', (∀ b o, P b o → P' b o) → δ <+: δ' → Inv g R P' δ' env ρ σ' h' → S P' δ' v → Q v { s with heap := h', toks := tk' }) →
    wpAny (model g.prog g.w) A (t vs) Q NoE s

noncomputable def Op1 (g : Glo) (n : Nat) (σ : List MO) (t : Value → Sem Value) (x y : V) (σ' : List MO) : Prop := Op g n σ [x] (fun vs => match vs with | [v] => t v | _ => unsupported "") (fun P δ v => g.Sees P δ v y) σ'
noncomputable def Op2 (g : Glo) (n : Nat) (σ : List MO) (t : Value → Value → Sem Value) (x₁ x₂ y : V) (σ' : List MO) : Prop :=
  Op g n σ [x₁, x₂] (fun vs => match vs with | [v, u] => t v u | _ => unsupported "") (fun P δ v => g.Sees P δ v y) σ'
/-- the truth of a value -/
noncomputable def Tr (g : Glo) (n : Nat) (σ : List MO) (x : V) (b : Bool) : Prop := Op g n σ [x] (fun vs => match vs with | [v] => truthy v | _ => unsupported "") (fun _ _ r => r = b) σ

section
variable {g : Glo} {sc : Scope} {n : Nat} {ρ : Loc} {σ σ₁ σ₂ σ₃ : List MO}

theorem Op1.use {t : Value → Sem Value} {x y : V} {σ' : List MO} (o : Op1 g n σ t x y σ') {env : Env} {ρ : Loc} {A : Around} {R : RS} {P : PS} {δ : List Addr} {s : Shared} {Q : Value → Shared → Prop} {v : Value}
    (hA : AOk A n R env) (I : Inv g R P δ env ρ σ s.heap) (hv : g.Sees P δ v x)
    (h : ∀ r P' δ' h' tk', (∀ b o, P b o → P' b o) → δ <+: δ' → Inv g R P' δ' env ρ σ' h' → g.Sees P' δ' r y → Q r { s with heap := h', toks := tk' }) : wpAny (model g.prog g.w) A (t v) Q NoE s :=
  o env ρ A R P δ s Q [v] hA I (.cons hv .nil) h
theorem Op2.use {t : Value → Value → Sem Value} {x₁ x₂ y : V} {σ' : List MO} (o : Op2 g n σ t x₁ x₂ y σ') {env : Env} {ρ : Loc} {A : Around} {R : RS} {P : PS} {δ : List Addr} {s : Shared} {Q : Value → Shared → Prop} {v u : Value}
    (hA : AOk A n R env) (I : Inv g R P δ env ρ σ s.heap) (hv : g.Sees P δ v x₁) (hu : g.Sees P δ u x₂)
    (h : ∀ r P' δ' h' tk', (∀ b o, P b o → P' b o) → δ <+: δ' → Inv g R P' δ' env ρ σ' h' → g.Sees P' δ' r y → Q r { s with heap := h', toks := tk' }) : wpAny (model g.prog g.w) A (t v u) Q NoE s :=
  o env ρ A R P δ s Q [v, u] hA I (.cons hv (.cons hu .nil)) h
theorem Tr.use {x : V} {b : Bool} (o : Tr g n σ x b) {env : Env} {ρ : Loc} {A : Around} {R : RS} {P : PS} {δ : List Addr} {s : Shared} {Q : Bool → Shared → Prop} {v : Value}
    (hA : AOk A n R env) (I : Inv g R P δ env ρ σ s.heap) (hv : g.Sees P δ v x)
    (h : ∀ P' δ' h' tk', (∀ b o, P b o → P' b o) → δ <+: δ' → Inv g R P' δ' env ρ σ h' → Q b { s with heap := h', toks := tk' }) : wpAny (model g.prog g.w) A (truthy v) Q NoE s :=
  o env ρ A R P δ s Q [v] hA I (.cons hv .nil) fun r P' δ' h' tk' a b c e => e ▸ h P' δ' h' tk' a b c

theorem Op1.of {t : Value → Sem Value} {x y : V} {σ' : List MO}
    (k : ∀ (env : Env) (ρ : Loc) (A : Around) (R : RS) (P : PS) (δ : List Addr) (s : Shared) (Q : Value → Shared → Prop) (v : Value), AOk A n R env → Inv g R P δ env ρ σ s.heap → g.Sees P δ v x →
      (∀ r P' δ' h' tk', (∀ b o, P b o → P' b o) → δ <+: δ' → Inv g R P' δ' env ρ σ' h' → g.Sees P' δ' r y → Q r { s with heap := h', toks := tk' }) → wpAny (model g.prog g.w) A (t v) Q NoE s) : Op1 g n σ t x y σ' := by
  intro env ρ A R P δ s Q vs hA I hv h
  obtain ⟨v, rfl, a⟩ := hv.one
  exact k env ρ A R P δ s Q _ hA I a h
theorem Op2.of {t : Value → Value → Sem Value} {x₁ x₂ y : V} {σ' : List MO}
    (k : ∀ (env : Env) (ρ : Loc) (A : Around) (R : RS) (P : PS) (δ : List Addr) (s : Shared) (Q : Value → Shared → Prop) (v u : Value), AOk A n R env → Inv g R P δ env ρ σ s.heap → g.Sees P δ v x₁ → g.Sees P δ u x₂ →
      (∀ r P' δ' h' tk', (∀ b o, P b o → P' b o) → δ <+: δ' → Inv g R P' δ' env ρ σ' h' → g.Sees P' δ' r y → Q r { s with heap := h', toks := tk' }) → wpAny (model g.prog g.w) A (t v u) Q NoE s) : Op2 g n σ t x₁ x₂ y σ' := by
  intro env ρ A R P δ s Q vs hA I hv h
  obtain ⟨v, u, rfl, a, b⟩ := hv.two
  exact k env ρ A R P δ s Q _ _ hA I a b h
theorem Tr.of {x : V} {b : Bool}
    (k : ∀ (env : Env) (ρ : Loc) (A : Around) (R : RS) (P : PS) (δ : List Addr) (s : Shared) (Q : Bool → Shared → Prop) (v : Value), AOk A n R env → Inv g R P δ env ρ σ s.heap → g.Sees P δ v x →
      (∀ P' δ' h' tk', (∀ b o, P b o → P' b o) → δ <+: δ' → Inv g R P' δ' env ρ σ h' → Q b { s with heap := h', toks := tk' }) → wpAny (model g.prog g.w) A (truthy v) Q NoE s) : Tr g n σ x b := by
  intro env ρ A R P δ s Q vs hA I hv h
  obtain ⟨v, rfl, a⟩ := hv.one
  exact k env ρ A R P δ s Q _ hA I a fun P' δ' h' tk' x y z => h _ P' δ' h' tk' x y z rfl

/-- nothing but the tokens moves -/
theorem stay {α : Type} {R : RS} {P : PS} {δ : List Addr} {env : Env} {s : Shared} {Q : α → Shared → Prop} {S : PS → List Addr → α → Prop} {v : α} (tk : Nat) (I : Inv g R P δ env ρ σ s.heap)
    (h : ∀ v P' δ' h' tk', (∀ b o, P b o → P' b o) → δ <+: δ' → Inv g R P' δ' env ρ σ h' → S P' δ' v → Q v { s with heap := h', toks := tk' }) (hv : S P δ v) : Q v { s with toks := tk } :=
  h v P δ s.heap tk (fun _ _ z => z) (List.prefix_refl _) I hv

theorem Inv.pushPin {R : RS} {P : PS} {δ : List Addr} {env : Env} {h : Heap} (I : Inv g R P δ env ρ σ h) (o : Obj) (hf : o.isFreed = false := by rfl) : Inv g R (pinned P h.objs.size o) δ env ρ σ (h.push o) :=
  (I.grows fun b o' e => Heap.get?_push_of_some o e).pin (I.free (get_size_none h)) (Heap.get?_push_size h hf)

theorem pin_le {P : PS} {a : Addr} {o : Obj} : ∀ b q, P b q → pinned P a o b q := fun _ _ z => .inl z
theorem pin_at {P : PS} {a : Addr} {o : Obj} : pinned P a o a o := .inr ⟨rfl, rfl⟩

-- names and constants
theorem ev_name {x : Str} {p : Pos} {y : V} (hk : canRead sc x = true := by decide +kernel) (hy : ρ.lookup x = some y := by rfl) : Ev g sc n (.Name x p) ρ σ y σ := by
  refine .mk ?_
  intro env A R P δ s Q O _ I h
  refine wpAny_Name (wp_load O I hk hy fun v hs => stay s.toks I h hs) ?_
  unfold canRead at hk
  split at hk <;> first | (cases hk; done) | simpa using (Bool.and_eq_true_iff.mp hk).2
theorem ev_int {i : Int} {k : Nat} {p : Pos} : Ev g sc n (.Constant (.int i) k p) ρ σ (.int i) σ := .mk fun _ _ _ _ _ s _ _ _ I h => wpAny_Constant_int (stay (s.toks + 1) I h (.int _ _))
theorem ev_bool {b : Bool} {k : Nat} {p : Pos} : Ev g sc n (.Constant (.bool b) k p) ρ σ (.bool b) σ := .mk fun _ _ _ _ _ s _ _ _ I h => wpAny_Constant_bool (stay s.toks I h (.bool _))
theorem ev_none {k : Nat} {p : Pos} : Ev g sc n (.Constant .none k p) ρ σ .none σ := .mk fun _ _ _ _ _ s _ _ _ I h => wpAny_Constant_none (stay s.toks I h .none)
theorem ev_str {x : Str} {l : List UInt8} {k : Nat} {p : Pos} (hx : x = S8 l) : Ev g sc n (.Constant (.str x) k p) ρ σ (.tx .s l) σ := .mk fun _ _ _ _ _ s _ _ _ I h =>
  wpAny_Constant_str (stay (s.toks + 1) I h (hx ▸ .str _ _))
theorem ev_bytes {x : List UInt8} {k : Nat} {p : Pos} : Ev g sc n (.Constant (.bytes x) k p) ρ σ (.tx .b x) σ := .mk fun _ _ _ _ _ s _ _ _ I h =>
  PySem.W.Constant_bytes (stay (s.toks + 1) I h (.bytes _ _))

-- operators
theorem ev_bin {l r : Expr} {op : Operator} {p : Pos} {x₁ x₂ y : V} (h1 : Ev g sc n l ρ σ x₁ σ₁) (h2 : Ev g sc n r ρ σ₁ x₂ σ₂) (ho : Op2 g n σ₂ (binaryOp op) x₁ x₂ y σ₃) : Ev g sc n (.BinOp l op r p) ρ σ y σ₃ := by
  refine .mk ?_
  intro env A R P δ s Q O hA I h
  refine wpAny_BinOp (h1.run env A R P δ s _ O hA I fun v P₁ δ₁ hh₁ tk₁ le₁ pr₁ I₁ s₁ => ?_)
  refine h2.run env A R P₁ δ₁ _ _ O hA I₁ fun u P₂ δ₂ hh₂ tk₂ le₂ pr₂ I₂ s₂ => ?_
  exact ho.use (s := { s with heap := hh₂, toks := tk₂ }) hA I₂ (s₁.mono le₂ pr₂) s₂ fun r P₃ δ₃ hh₃ tk₃ le₃ pr₃ I₃ s₃ => h r P₃ δ₃ hh₃ tk₃ (fun b o z => le₃ b o (le₂ b o (le₁ b o z))) ((pr₁.trans pr₂).trans pr₃) I₃ s₃
theorem ev_un {op : UnaryOp} {e : Expr} {p : Pos} {x y : V} (h1 : Ev g sc n e ρ σ x σ₁) (ho : Op1 g n σ₁ (unaryOp op) x y σ₂) : Ev g sc n (.UnaryOp op e p) ρ σ y σ₂ := by
  refine .mk ?_
  intro env A R P δ s Q O hA I h
  refine wpAny_UnaryOp (h1.run env A R P δ s _ O hA I fun v P₁ δ₁ hh₁ tk₁ le₁ pr₁ I₁ s₁ => ?_)
  exact ho.use (s := { s with heap := hh₁, toks := tk₁ }) hA I₁ s₁ fun r P₃ δ₃ hh₃ tk₃ le₃ pr₃ I₃ s₃ => h r P₃ δ₃ hh₃ tk₃ (fun b o z => le₃ b o (le₁ b o z)) (pr₁.trans pr₃) I₃ s₃
theorem ev_cmp {l r : Expr} {op : CmpOp} {p : Pos} {x₁ x₂ y : V} (h1 : Ev g sc n l ρ σ x₁ σ₁) (h2 : Ev g sc n r ρ σ₁ x₂ σ₂) (ho : Op2 g n σ₂ (compareOp op) x₁ x₂ y σ₃)
    (hm : behindInMarks op r = false := by with_unfolding_all rfl) : Ev g sc n (.Compare l [op] [r] p) ρ σ y σ₃ := by
  refine .mk ?_
  intro env A R P δ s Q O hA I h
  refine wpAny_Compare1 (h1.run env A R P δ s _ O hA I fun v P₁ δ₁ hh₁ tk₁ le₁ pr₁ I₁ s₁ => ?_) hm
  refine h2.run env A R P₁ δ₁ _ _ O hA I₁ fun u P₂ δ₂ hh₂ tk₂ le₂ pr₂ I₂ s₂ => ?_
  exact ho.use (s := { s with heap := hh₂, toks := tk₂ }) hA I₂ (s₁.mono le₂ pr₂) s₂ fun r P₃ δ₃ hh₃ tk₃ le₃ pr₃ I₃ s₃ => h r P₃ δ₃ hh₃ tk₃ (fun b o z => le₃ b o (le₂ b o (le₁ b o z))) ((pr₁.trans pr₂).trans pr₃) I₃ s₃

-- tests
theorem evb_cmp {l r : Expr} {op : CmpOp} {p : Pos} {x₁ x₂ : V} {b : Bool} (h1 : Ev g sc n l ρ σ x₁ σ₁) (h2 : Ev g sc n r ρ σ₁ x₂ σ₂) (ho : Op2 g n σ₂ (compareOp op) x₁ x₂ (.bool b) σ₃)
    (hm : behindInMarks op r = false := by with_unfolding_all rfl) : EvB g sc n (.Compare l [op] [r] p) ρ σ b σ₃ := by
  refine .mk ?_
  intro env A R P δ s Q O hA I h
  refine wpAny_isTrue_Compare1 (h1.run env A R P δ s _ O hA I fun v P₁ δ₁ hh₁ tk₁ le₁ pr₁ I₁ s₁ => ?_) hm
  refine h2.run env A R P₁ δ₁ _ _ O hA I₁ fun u P₂ δ₂ hh₂ tk₂ le₂ pr₂ I₂ s₂ => ?_
  refine ho.use (s := { s with heap := hh₂, toks := tk₂ }) hA I₂ (s₁.mono le₂ pr₂) s₂ fun r P₃ δ₃ hh₃ tk₃ le₃ pr₃ I₃ s₃ => ?_
  obtain rfl := s₃.tells
  exact wpAny_truthy_bool (h b P₃ δ₃ hh₃ tk₃ (fun b o z => le₃ b o (le₂ b o (le₁ b o z))) ((pr₁.trans pr₂).trans pr₃) I₃ rfl)
theorem evb_not {e : Expr} {p : Pos} {b : Bool} (h1 : EvB g sc n e ρ σ b σ₁) : EvB g sc n (.UnaryOp .Not e p) ρ σ (!b) σ₁ := by
  refine .mk ?_
  intro env A R P δ s Q O hA I h
  exact wpAny_isTrue_Not (h1.run env A R P δ s _ O hA I fun v P₁ δ₁ hh₁ tk₁ le₁ pr₁ I₁ s₁ => h (!v) P₁ δ₁ hh₁ tk₁ le₁ pr₁ I₁ (by rw [s₁]))
/-- a test that is no comparison, no not, no and, or, if -/
noncomputable def plainTest : Expr → Bool
  | .UnaryOp .Not _ _ | .BoolOp .. | .IfExp .. | .Compare .. => false
  | _ => true
theorem evb_val {e : Expr} {x : V} {b : Bool} (he : plainTest e = true) (h1 : Ev g sc n e ρ σ x σ₁) (ht : Tr g n σ₁ x b) : EvB g sc n e ρ σ b σ₁ := by
  refine .mk ?_
  intro env A R P δ s Q O hA I h
  refine wpAny_isTrue_value (h1.run env A R P δ s _ O hA I fun v P₁ δ₁ hh₁ tk₁ le₁ pr₁ I₁ s₁ => ?_) ?_
  · exact ht.use (s := { s with heap := hh₁, toks := tk₁ }) hA I₁ s₁ fun P₃ δ₃ hh₃ tk₃ le₃ pr₃ I₃ => h b P₃ δ₃ hh₃ tk₃ (fun b o z => le₃ b o (le₁ b o z)) (pr₁.trans pr₃) I₃ rfl
  · cases e with
    | UnaryOp op a b => cases op <;> first | (cases he; done) | rfl
    | BoolOp | IfExp | Compare => cases he
    | _ => rfl
/-- and, or among tests: the second is asked only where the first leaves it open -/
theorem evb_and {x y : Expr} {p : Pos} {b c : Bool} (h1 : EvB g sc n x ρ σ b σ) (h2 : b = true → EvB g sc n y ρ σ c σ) : EvB g sc n (.BoolOp .And [x, y] p) ρ σ (b && c) σ := by
  refine .mk ?_
  intro env A R P δ s Q O hA I h
  refine wpAny_isTrue_BoolOp (wpAny_allTrue_And_cons (h1.run env A R P δ s _ O hA I fun v P₁ δ₁ hh₁ tk₁ le₁ pr₁ I₁ s₁ => ?_))
  subst s₁
  cases v with
  | false => exact h false P₁ δ₁ hh₁ tk₁ le₁ pr₁ I₁ rfl
  | true =>
    refine wpAny_allTrue_And_cons ((h2 rfl).run env A R P₁ δ₁ _ _ O hA I₁ fun u P₂ δ₂ hh₂ tk₂ le₂ pr₂ I₂ s₂ => ?_)
    subst s₂
    cases u with
    | false => exact h false P₂ δ₂ hh₂ tk₂ (fun b o z => le₂ b o (le₁ b o z)) (pr₁.trans pr₂) I₂ rfl
    | true => exact wpAny_allTrue_And_nil (h true P₂ δ₂ hh₂ tk₂ (fun b o z => le₂ b o (le₁ b o z)) (pr₁.trans pr₂) I₂ rfl)
theorem evb_or {x y : Expr} {p : Pos} {b c : Bool} (h1 : EvB g sc n x ρ σ b σ) (h2 : b = false → EvB g sc n y ρ σ c σ) : EvB g sc n (.BoolOp .Or [x, y] p) ρ σ (b || c) σ := by
  refine .mk ?_
  intro env A R P δ s Q O hA I h
  refine wpAny_isTrue_BoolOp (wpAny_allTrue_Or_cons (h1.run env A R P δ s _ O hA I fun v P₁ δ₁ hh₁ tk₁ le₁ pr₁ I₁ s₁ => ?_))
  subst s₁
  cases v with
  | true => exact h true P₁ δ₁ hh₁ tk₁ le₁ pr₁ I₁ rfl
  | false =>
    refine wpAny_allTrue_Or_cons ((h2 rfl).run env A R P₁ δ₁ _ _ O hA I₁ fun u P₂ δ₂ hh₂ tk₂ le₂ pr₂ I₂ s₂ => ?_)
    subst s₂
    cases u with
    | true => exact h true P₂ δ₂ hh₂ tk₂ (fun b o z => le₂ b o (le₁ b o z)) (pr₁.trans pr₂) I₂ rfl
    | false => exact wpAny_allTrue_Or_nil (h false P₂ δ₂ hh₂ tk₂ (fun b o z => le₂ b o (le₁ b o z)) (pr₁.trans pr₂) I₂ rfl)
theorem evb_or3 {x y z : Expr} {p : Pos} {b c d : Bool} (h1 : EvB g sc n x ρ σ b σ) (h2 : b = false → EvB g sc n y ρ σ c σ) (h3 : b = false → c = false → EvB g sc n z ρ σ d σ) :
    EvB g sc n (.BoolOp .Or [x, y, z] p) ρ σ (b || c || d) σ := by
  refine .mk ?_
  intro env A R P δ s Q O hA I h
  refine wpAny_isTrue_BoolOp (wpAny_allTrue_Or_cons (h1.run env A R P δ s _ O hA I fun v P₁ δ₁ hh₁ tk₁ le₁ pr₁ I₁ s₁ => ?_))
  subst s₁
  cases v with
  | true => exact h true P₁ δ₁ hh₁ tk₁ le₁ pr₁ I₁ rfl
  | false =>
    refine wpAny_allTrue_Or_cons ((h2 rfl).run env A R P₁ δ₁ _ _ O hA I₁ fun u P₂ δ₂ hh₂ tk₂ le₂ pr₂ I₂ s₂ => ?_)
    subst s₂
    cases u with
    | true => exact h true P₂ δ₂ hh₂ tk₂ (fun b o z => le₂ b o (le₁ b o z)) (pr₁.trans pr₂) I₂ rfl
    | false =>
      refine wpAny_allTrue_Or_cons ((h3 rfl rfl).run env A R P₂ δ₂ _ _ O hA I₂ fun u P₃ δ₃ hh₃ tk₃ le₃ pr₃ I₃ s₃ => ?_)
      subst s₃
      cases u with
      | true => exact h true P₃ δ₃ hh₃ tk₃ (fun b o z => le₃ b o (le₂ b o (le₁ b o z))) ((pr₁.trans pr₂).trans pr₃) I₃ rfl
      | false => exact wpAny_allTrue_Or_nil (h false P₃ δ₃ hh₃ tk₃ (fun b o z => le₃ b o (le₂ b o (le₁ b o z))) ((pr₁.trans pr₂).trans pr₃) I₃ rfl)

/-- or, and as values -/
theorem ev_or {x y : Expr} {p : Pos} {a c : V} {b : Bool} (h1 : Ev g sc n x ρ σ a σ) (ht : Tr g n σ a b) (h2 : b = false → Ev g sc n y ρ σ c σ) : Ev g sc n (.BoolOp .Or [x, y] p) ρ σ (if b then a else c) σ := by
  refine .mk ?_
  intro env A R P δ s Q O hA I h
  refine wpAny_Or2 (h1.run env A R P δ s _ O hA I fun v P₁ δ₁ hh₁ tk₁ le₁ pr₁ I₁ s₁ => ?_)
  refine ht.use (s := { s with heap := hh₁, toks := tk₁ }) hA I₁ s₁ fun P₃ δ₃ hh₃ tk₃ le₃ pr₃ I₃ => ?_
  cases b with
  | true => exact h v P₃ δ₃ hh₃ tk₃ (fun b o z => le₃ b o (le₁ b o z)) (pr₁.trans pr₃) I₃ (s₁.mono le₃ pr₃)
  | false =>
    refine (h2 rfl).run env A R P₃ δ₃ _ _ O hA I₃ fun u P₂ δ₂ hh₂ tk₂ le₂ pr₂ I₂ s₂ => ?_
    exact h u P₂ δ₂ hh₂ tk₂ (fun b o z => le₂ b o (le₃ b o (le₁ b o z))) ((pr₁.trans pr₃).trans pr₂) I₂ s₂
theorem ev_if {t b o : Expr} {p : Pos} {c : Bool} {x y : V} (h1 : EvB g sc n t ρ σ c σ) (h2 : c = true → Ev g sc n b ρ σ x σ) (h3 : c = false → Ev g sc n o ρ σ y σ) : Ev g sc n (.IfExp t b o p) ρ σ (if c then x else y) σ := by
  refine .mk ?_
  intro env A R P δ s Q O hA I h
  refine wpAny_IfExp (h1.run env A R P δ s _ O hA I fun v P₁ δ₁ hh₁ tk₁ le₁ pr₁ I₁ s₁ => ?_)
  subst s₁
  cases v with
  | true => exact (h2 rfl).run env A R P₁ δ₁ _ _ O hA I₁ fun u P₂ δ₂ hh₂ tk₂ le₂ pr₂ I₂ s₂ => h u P₂ δ₂ hh₂ tk₂ (fun b o z => le₂ b o (le₁ b o z)) (pr₁.trans pr₂) I₂ s₂
  | false => exact (h3 rfl).run env A R P₁ δ₁ _ _ O hA I₁ fun u P₂ δ₂ hh₂ tk₂ le₂ pr₂ I₂ s₂ => h u P₂ δ₂ hh₂ tk₂ (fun b o z => le₂ b o (le₁ b o z)) (pr₁.trans pr₂) I₂ s₂

-- displays
theorem ev_list {es : List Expr} {p : Pos} {xs : List V} (h1 : EvL g sc n p es ρ σ xs σ₁) (hz : xs.length ≤ 16777216 := by simp) : Ev g sc n (.List es p) ρ σ (.list xs) σ₁ := by
  refine .mk ?_
  intro env A R P δ s Q O hA I h
  refine wpAny_List_spliced (h1.run env A R P δ s _ O hA I fun vs P₁ δ₁ hh₁ tk₁ le₁ pr₁ I₁ s₁ => ⟨by rw [s₁.length, sizeLine_eq]; exact hz, ?_⟩)
  exact h _ _ δ₁ (hh₁.push _) tk₁ (fun b o z => pin_le b o (le₁ b o z)) pr₁ (I₁.pushPin _) (.mkList pin_at rfl rfl (s₁.mono pin_le (List.prefix_refl _)))
theorem ev_tuple {es : List Expr} {k : Nat} {p : Pos} {xs : List V} (h1 : EvL g sc n p es ρ σ xs σ₁) (hz : xs.length ≤ 16777216 := by simp) : Ev g sc n (.Tuple es k p) ρ σ (.tup xs) σ₁ := by
  refine .mk ?_
  intro env A R P δ s Q O hA I h
  refine wpAny_Tuple_spliced (h1.run env A R P δ s _ O hA I fun vs P₁ δ₁ hh₁ tk₁ le₁ pr₁ I₁ s₁ => ⟨by rw [s₁.length, sizeLine_eq]; exact hz, ?_⟩)
  exact h _ _ δ₁ (hh₁.push _) tk₁ (fun b o z => pin_le b o (le₁ b o z)) pr₁ (I₁.pushPin _) (.mkTup pin_at rfl rfl (s₁.mono pin_le (List.prefix_refl _)))
end
end Mine
end
section
open PySem PySem.W PyProof.Rows
set_option Elab.async false
namespace Mine

inductive Out where
  | nx (ρ : Loc) (σ : List MO)
  | ct (ρ : Loc) (σ : List MO)
  | bk (ρ : Loc) (σ : List MO)
  | rt (x : V) (σ : List MO)

noncomputable def Post (g : Glo) (R : RS) (P : PS) (δ : List Addr) (env : Env) (s : Shared) (Q : Flow → Shared → Prop) : Out → Prop
  | .nx ρ σ => ∀ P' δ' h' tk', (∀ b o, P b o → P' b o) → δ <+: δ' → Inv g R P' δ' env ρ σ h' → Q .next { s with heap := h', toks := tk' }
  | .ct ρ σ => ∀ P' δ' h' tk', (∀ b o, P b o → P' b o) → δ <+: δ' → Inv g R P' δ' env ρ σ h' → Q .cont { s with heap := h', toks := tk' }
  | .bk ρ σ => ∀ P' δ' h' tk', (∀ b o, P b o → P' b o) → δ <+: δ' → Inv g R P' δ' env ρ σ h' → Q .brk { s with heap := h', toks := tk' }
  | .rt x σ => ∀ v P' δ' h' tk', (∀ b o, P b o → P' b o) → δ <+: δ' → Inv g R P' δ' env [] σ h' → g.Sees P' δ' v x → Q (.ret v) { s with heap := h', toks := tk' }

/-- what statements do: they end in one of the outcomes that Φ takes -/
structure Ex (g : Glo) (sc : Scope) (n : Nat) (ss : List Stmt) (ρ : Loc) (σ : List MO) (Φ : Out → Prop) : Prop where
  run : ∀ (env : Env) (A : Around) (R : RS) (P : PS) (δ : List Addr) (s : Shared) (Q : Flow → Shared → Prop), EnvOk env sc → AOk A n R env → Inv g R P δ env ρ σ s.heap →
    (∀ o, Φ o → Post g R P δ env s Q o) → wpAny (model g.prog g.w) A (execs ss env) Q NoE s

section
variable {g : Glo} {sc : Scope} {n : Nat} {ρ : Loc} {σ σ₁ σ₂ σ₃ : List MO} {Φ : Out → Prop} {rest : List Stmt}

theorem Post.mono {R : RS} {P P' : PS} {δ δ' : List Addr} {env : Env} {s : Shared} {h' : Heap} {tk' : Nat} {Q : Flow → Shared → Prop} (le : ∀ b o, P b o → P' b o) (pr : δ <+: δ') : ∀ {o : Out}, Post g R P δ env s Q o → Post g R P' δ' env { s with heap := h', toks := tk' } Q o
  | .nx _ _, h => fun P₂ δ₂ h₂ tk₂ le₂ pr₂ I₂ => h P₂ δ₂ h₂ tk₂ (fun b o z => le₂ b o (le b o z)) (pr.trans pr₂) I₂
  | .ct _ _, h => fun P₂ δ₂ h₂ tk₂ le₂ pr₂ I₂ => h P₂ δ₂ h₂ tk₂ (fun b o z => le₂ b o (le b o z)) (pr.trans pr₂) I₂
  | .bk _ _, h => fun P₂ δ₂ h₂ tk₂ le₂ pr₂ I₂ => h P₂ δ₂ h₂ tk₂ (fun b o z => le₂ b o (le b o z)) (pr.trans pr₂) I₂
  | .rt _ _, h => fun v P₂ δ₂ h₂ tk₂ le₂ pr₂ I₂ s₂ => h v P₂ δ₂ h₂ tk₂ (fun b o z => le₂ b o (le b o z)) (pr.trans pr₂) I₂ s₂

theorem Ex.mono {ss : List Stmt} {Ψ : Out → Prop} (h : Ex g sc n ss ρ σ Φ) (hm : ∀ o, Φ o → Ψ o) : Ex g sc n ss ρ σ Ψ := .mk fun env A R P δ s Q O hA I k => h.run env A R P δ s Q O hA I fun o ho => k o (hm o ho)

theorem ex_nil (h : Φ (.nx ρ σ)) : Ex g sc n [] ρ σ Φ := .mk fun _ _ _ P δ s _ _ _ I k =>
  wpAny_execs_nil (k _ h P δ s.heap s.toks (fun _ _ z => z) (List.prefix_refl _) I)

/-- one statement that always goes on -/
structure Ex1 (g : Glo) (sc : Scope) (n : Nat) (st : Stmt) (ρ : Loc) (σ : List MO) (ρ' : Loc) (σ' : List MO) : Prop where
  run : ∀ (env : Env) (A : Around) (R : RS) (P : PS) (δ : List Addr) (s : Shared) (Q : Flow → Shared → Prop), EnvOk env sc → AOk A n R env → Inv g R P δ env ρ σ s.heap →
    (∀ P' δ' h' tk', (∀ b o, P b o → P' b o) → δ <+: δ' → Inv g R P' δ' env ρ' σ' h' → Q .next { s with heap := h', toks := tk' }) → wpAny (model g.prog g.w) A (exec st env) Q NoE s

theorem ex_step {st : Stmt} {ρ' : Loc} {σ' : List MO} (h1 : Ex1 g sc n st ρ σ ρ' σ') (h2 : Ex g sc n rest ρ' σ' Φ) : Ex g sc n (st :: rest) ρ σ Φ := .mk fun env A R P δ s Q O hA I k =>
  wpAny_execs_cons (h1.run env A R P δ s _ O hA I fun P' δ' h' tk' le pr I' => h2.run env A R P' δ' _ Q O hA I' fun o ho => (k o ho).mono le pr)

theorem ex1_assign {a : Str} {pa p : Pos} {e : Expr} {x : V} (h1 : Ev g sc n e ρ σ x σ₁) (ha : isVar sc a = true := by decide +kernel) (hs : ∀ env, swapsWith e (some (.Name a pa)) p.line env = pure false := by intro _; rfl) :
    Ex1 g sc n (.Assign [.Name a pa] e p) ρ σ ((a, x) :: ρ) σ₁ := .mk fun env A R P δ s Q O hA I k =>
  wpAny_Assign_Name (h1.run env A R P δ s _ O hA I fun v P₁ δ₁ hh₁ tk₁ le₁ pr₁ I₁ s₁ => wp_store (s := { s with heap := hh₁, toks := tk₁ }) O I₁ ha s₁ fun h' tk' I' => k P₁ δ₁ h' tk' le₁ pr₁ I') (hs env)
theorem ex1_aug {a : Str} {pa p : Pos} {op : Operator} {e : Expr} {x y z : V} (h1 : Ev g sc n e ρ σ x σ₁) (ho : Op2 g n σ₁ (inplaceOp op) y x z σ₂) (hy : ρ.lookup a = some y := by rfl) (ha : isVar sc a = true := by decide +kernel) (hr : canRead sc a = true := by decide +kernel) :
    Ex1 g sc n (.AugAssign (.Name a pa) op e p) ρ σ ((a, z) :: ρ) σ₂ := .mk fun env A R P δ s Q O hA I k =>
  wpAny_AugAssign_Name (wp_load O I hr hy fun u hu => h1.run env A R P δ s _ O hA I fun v P₁ δ₁ hh₁ tk₁ le₁ pr₁ I₁ s₁ =>
    ho.use (s := { s with heap := hh₁, toks := tk₁ }) hA I₁ (hu.mono le₁ pr₁) s₁ fun r P₂ δ₂ hh₂ tk₂ le₂ pr₂ I₂ s₂ =>
      wp_store (s := { s with heap := hh₂, toks := tk₂ }) O I₂ ha s₂ fun h' tk' I' => k P₂ δ₂ h' tk' (fun b o z => le₂ b o (le₁ b o z)) (pr₁.trans pr₂) I')
theorem ex1_expr {e : Expr} {p : Pos} {x : V} (h1 : Ev g sc n e ρ σ x σ₁) (hs : ∀ env, swapsWith e none p.line env = pure false := by intro _; rfl) : Ex1 g sc n (.Expr e p) ρ σ ρ σ₁ := .mk fun env A R P δ s Q O hA I k => by
  refine wpAny_Expr_any (h1.run env A R P δ s _ O hA I fun v P₁ δ₁ hh₁ tk₁ le₁ pr₁ I₁ s₁ => k P₁ δ₁ hh₁ tk₁ le₁ pr₁ I₁) ?_ (hs env)
  unfold interactive
  rw [O.scope, O.kind]; rfl

theorem ex_ret {e : Expr} {p : Pos} {x : V} (h1 : Ev g sc n e ρ σ x σ₁) (h : Φ (.rt x σ₁)) : Ex g sc n (.Return (some e) p :: rest) ρ σ Φ := .mk fun env A R P δ s Q O hA I k =>
  wpAny_execs_cons (wpAny_Return_some (h1.run env A R P δ s _ O hA I fun v P₁ δ₁ hh₁ tk₁ le₁ pr₁ I₁ s₁ => k _ h v P₁ δ₁ hh₁ tk₁ le₁ pr₁ (I₁.forget fun x y e => by cases e) s₁))
theorem ex_brk {p : Pos} (h : Φ (.bk ρ σ)) : Ex g sc n (.Break p :: rest) ρ σ Φ := .mk fun _ _ _ P δ s _ _ _ I k =>
  wpAny_execs_cons (wpAny_Break (k _ h P δ s.heap s.toks (fun _ _ z => z) (List.prefix_refl _) I))
theorem ex_cont {p : Pos} (h : Φ (.ct ρ σ)) : Ex g sc n (.Continue p :: rest) ρ σ Φ := .mk fun _ _ _ P δ s _ _ _ I k =>
  wpAny_execs_cons (wpAny_Continue (k _ h P δ s.heap s.toks (fun _ _ z => z) (List.prefix_refl _) I))

theorem execs_append (env : Env) : ∀ (a b : List Stmt), execs (a ++ b) env = (execs a env >>= fun f => match f with | .next => execs b env | f => pure f)
  | [], b => by rw [List.nil_append, execs_nil]; rfl
  | st :: a, b => by
    rw [List.cons_append, execs_cons, execs_cons, bind_assoc]
    congr 1
    funext f
    cases f with
    | next => exact execs_append env a b
    | _ => rfl

theorem execs_if (env : Env) (t : Expr) (body orelse rest : List Stmt) (p : Pos) :
    execs (.If t body orelse p :: rest) env = (standAt p >>= fun _ => isTrue t env (eval t env) >>= fun b => if b then execs (body ++ rest) env else execs (orelse ++ rest) env) := by
  rw [execs_cons, exec_If, bind_assoc]
  congr 1
  funext _
  rw [bind_assoc]
  congr 1
  funext b
  cases b with
  | true => exact (execs_append env body rest).symm
  | false => exact (execs_append env orelse rest).symm

theorem ex_if {t : Expr} {body orelse : List Stmt} {p : Pos} {b : Bool} (h1 : EvB g sc n t ρ σ b σ₁) (h2 : b = true → Ex g sc n (body ++ rest) ρ σ₁ Φ) (h3 : b = false → Ex g sc n (orelse ++ rest) ρ σ₁ Φ) :
    Ex g sc n (.If t body orelse p :: rest) ρ σ Φ := .mk fun env A R P δ s Q O hA I k => by
  rw [execs_if]
  refine wpAny_bind (wpAny_standAt (wpAny_bind (h1.run env A R P δ s _ O hA I fun c P₁ δ₁ hh₁ tk₁ le₁ pr₁ I₁ s₁ => ?_)))
  subst s₁
  cases c with
  | true => exact (h2 rfl).run env A R P₁ δ₁ _ Q O hA I₁ fun o ho => (k o ho).mono le₁ pr₁
  | false => exact (h3 rfl).run env A R P₁ δ₁ _ Q O hA I₁ fun o ho => (k o ho).mono le₁ pr₁
/-- an if whose ways meet again -/
theorem ex_ifj {t : Expr} {body orelse : List Stmt} {p : Pos} {b : Bool} {ρ' : Loc} {σ' : List MO} (h1 : EvB g sc n t ρ σ b σ₁) (h2 : b = true → Ex g sc n body ρ σ₁ (fun o => ∃ r, o = .nx r σ' ∧ ∀ x y, ρ'.lookup x = some y → r.lookup x = some y))
    (h3 : b = false → Ex g sc n orelse ρ σ₁ (fun o => ∃ r, o = .nx r σ' ∧ ∀ x y, ρ'.lookup x = some y → r.lookup x = some y)) (h : Ex g sc n rest ρ' σ' Φ) :
    Ex g sc n (.If t body orelse p :: rest) ρ σ Φ := .mk fun env A R P δ s Q O hA I k => by
  have fin : ∀ (ss : List Stmt) P₁ δ₁ hh₁ tk₁, (∀ b o, P b o → P₁ b o) → δ <+: δ₁ → Inv g R P₁ δ₁ env ρ σ₁ hh₁ → Ex g sc n ss ρ σ₁ (fun o => ∃ r, o = .nx r σ' ∧ ∀ x y, ρ'.lookup x = some y → r.lookup x = some y) →
      wpAny (model g.prog g.w) A (execs ss env) (fun f s' => match f with | .next => wpAny (model g.prog g.w) A (execs rest env) Q NoE s' | f => Q f s') NoE { s with heap := hh₁, toks := tk₁ } := by
    intro ss P₁ δ₁ hh₁ tk₁ le₁ pr₁ I₁ hx
    refine hx.run env A R P₁ δ₁ _ _ O hA I₁ ?_
    rintro o ⟨r, rfl, hr⟩ P₂ δ₂ hh₂ tk₂ le₂ pr₂ I₂
    exact h.run env A R P₂ δ₂ _ Q O hA (I₂.forget hr) fun o ho => (k o ho).mono (fun b o z => le₂ b o (le₁ b o z)) (pr₁.trans pr₂)
  refine wpAny_execs_cons (wpAny_If (h1.run env A R P δ s _ O hA I fun c P₁ δ₁ hh₁ tk₁ le₁ pr₁ I₁ s₁ => ?_))
  subst s₁
  cases c with
  | true => exact fin body P₁ δ₁ hh₁ tk₁ le₁ pr₁ I₁ (h2 rfl)
  | false => exact fin orelse P₁ δ₁ hh₁ tk₁ le₁ pr₁ I₁ (h3 rfl)
end
end Mine
end
section
open PySem PySem.W PyProof.Rows PySem.Calls
set_option Elab.async false
set_option linter.unusedVariables false
namespace Mine

/-- a def of the text, called: what comes back, what the cells then hold -/
noncomputable def Fn (g : Glo) (n : Nat) (f : Str) (args : List V) (σ : List MO) (x : V) (σ' : List MO) : Prop :=
  ∃ a o fd, g.mg f = some (.ref a) ∧ g.hb.get? a = some o ∧ o.data = .func fd ∧ Op g n σ args (fun vs => call (.ref a) vs) (fun P δ v => g.Sees P δ v x) σ'

theorem cellsFrom_some {x : Str} : ∀ (names : List (Str × NameKind)) (n : Nat) (acc : List (Str × Addr)), (acc.lookup x).isSome = true ∨ (x, NameKind.cell) ∈ names → ((cellsFrom n names acc).lookup x).isSome = true
  | [], _, _, h => h.elim id fun h => (nomatch h)
  | (y, k) :: r, n, acc, h => by
    unfold cellsFrom
    split
    · rename_i hk
      refine cellsFrom_some r _ _ ?_
      by_cases hxy : x = y
      · subst hxy; exact .inl (by simp)
      · have hb : (x == y) = false := by simpa using hxy
        rcases h with h | h
        · exact .inl (by rw [List.lookup_cons, hb]; exact h)
        · rcases List.mem_cons.mp h with e | h
          · exact absurd (Prod.mk.inj e).1 hxy
          · exact .inr h
    · rename_i hk
      refine cellsFrom_some r _ _ ?_
      rcases h with h | h
      · exact .inl h
      · rcases List.mem_cons.mp h with e | h
        · have := (Prod.mk.inj e).2
          exact absurd (by rw [← this]; rfl) hk
        · exact .inr h

theorem bindL_other {kindOf : Str → Option NameKind} {x : Str} : ∀ (binds : List (Str × Value)) (m : Str → Option Value), x ∉ binds.map (·.1) → bindL kindOf binds m x = m x
  | [], _, _ => rfl
  | (y, v) :: r, m, h => by
    simp only [List.map_cons, List.mem_cons, not_or] at h
    unfold bindL
    rw [bindL_other r _ h.2]
    split
    · simp [h.1]
    · rfl
theorem bindC_other {kindOf : Str → Option NameKind} {x : Str} : ∀ (binds : List (Str × Value)) (m : Str → Option Value), x ∉ binds.map (·.1) → bindC kindOf binds m x = m x
  | [], _, _ => rfl
  | (y, v) :: r, m, h => by
    simp only [List.map_cons, List.mem_cons, not_or] at h
    unfold bindC
    rw [bindC_other r _ h.2]
    split
    · rfl
    · simp [h.1]
theorem bindL_at {kindOf : Str → Option NameKind} {x : Str} {v : Value} : ∀ (binds : List (Str × Value)) (m : Str → Option Value), (binds.map (·.1)).Nodup → (x, v) ∈ binds → kindOf x = some .local → bindL kindOf binds m x = some v
  | (y, u) :: r, m, hn, h, hk => by
    rw [List.map_cons, List.nodup_cons] at hn
    unfold bindL
    rcases List.mem_cons.mp h with e | h
    · cases e
      rw [bindL_other r _ hn.1, if_pos hk]
      simp
    · exact bindL_at r _ hn.2 h hk
theorem bindC_at {kindOf : Str → Option NameKind} {x : Str} {v : Value} : ∀ (binds : List (Str × Value)) (m : Str → Option Value), (binds.map (·.1)).Nodup → (x, v) ∈ binds → kindOf x = some .cell → bindC kindOf binds m x = some v
  | (y, u) :: r, m, hn, h, hk => by
    rw [List.map_cons, List.nodup_cons] at hn
    unfold bindC
    rcases List.mem_cons.mp h with e | h
    · cases e
      rw [bindC_other r _ hn.1, if_neg (by rw [hk]; decide)]
      simp
    · exact bindC_at r _ hn.2 h hk

section
variable {g : Glo} {R : RS} {P P' : PS} {δ δ' : List Addr} {env env' : Env} {ρ : Loc} {σ σ' : List MO} {h h' : Heap}

/-- while a def runs, the caller's frame stays as it is -/
noncomputable def under (R : RS) (env : Env) (h : Heap) : RS := ⟨R.ex, fun b o => R.up b o ∨ (slot env b ∧ h.get? b = some o)⟩
theorem under_any {R : RS} {env : Env} {h : Heap} {b : Addr} {o : Obj} (x : (under R env h).any b o) : R.any b o ∨ (slot env b ∧ h.get? b = some o) := by
  rcases x with x | x | x
  · exact .inl (.inl x)
  · exact .inl (.inr x)
  · exact .inr x
theorem any_under {R : RS} {env : Env} {h : Heap} {b : Addr} {o : Obj} (x : R.any b o) : (under R env h).any b o := by
  rcases x with x | x
  · exact .inl x
  · exact .inr (.inl x)
theorem slot_under {R : RS} {env : Env} {h : Heap} {b : Addr} {o : Obj} (x : slot env b) (e : h.get? b = some o) : (under R env h).any b o := .inr (.inr ⟨x, e⟩)

theorem Inv.back (I : Inv g R P δ env ρ σ h) (J : Inv g (under R env h) P' δ' env' [] σ' h') (le : ∀ b o, P b o → P' b o) (pr : δ <+: δ') : Inv g R P' δ' env ρ σ' h' where
  keepR := J.keepR
  keepU := fun b o r => J.keepU b o (.inl r)
  part := I.part
  keepP := J.keepP
  base := I.base
  sep := fun b o o' x y => J.sep b o o' x (any_under y)
  loc := by
    obtain ⟨m, ⟨o, es, ep, ho, r⟩, hm⟩ := I.loc
    obtain ⟨sl, hsl⟩ := J.keepU _ _ (.inr ⟨.inl rfl, ho⟩)
    refine ⟨m, ⟨_, es, ep, hsl, r⟩, fun x y e => ?_⟩
    obtain ⟨v, hs, hl⟩ := hm x y e
    refine ⟨v, hs.mono le pr, ?_⟩
    rcases hl with l | ⟨h1, c, h2, o', ho', hd⟩ | l
    · exact .inl l
    · obtain ⟨sl, hsl⟩ := J.keepU _ _ (.inr ⟨.inr ⟨x, h1, h2⟩, ho'⟩)
      exact .inr (.inl ⟨h1, c, h2, _, hsl, hd⟩)
    · exact .inr (.inr l)
  cel := fun x hx => by
    obtain ⟨c, ov, hc, o, ho, hd⟩ := I.cel x hx
    obtain ⟨sl, hsl⟩ := J.keepU _ _ (.inr ⟨.inr ⟨x, hx, hc⟩, ho⟩)
    exact ⟨c, ov, hc, _, hsl, hd⟩
  one := I.one
  nloc := I.nloc
  offP := fun a o hs x => by
    obtain ⟨q, hq⟩ := I.slot_lt hs
    obtain ⟨z, hz⟩ := J.sep a o q x (slot_under hs hq)
    exact I.offR _ _ hs (.inl (I.base _ _ hz))
  offR := I.offR
  offD := fun a hs x => by
    obtain ⟨q, hq⟩ := I.slot_lt hs
    exact J.dR a q x (slot_under hs hq)
  dP := J.dP
  dR := fun a o x r => J.dR a o x (any_under r)
  dN := J.dN
  len := J.len
  objs := J.objs

/-- what a call binds -/
structure Binds (g : Glo) (P : PS) (δ : List Addr) (binds : List (Str × Value)) (ρ : Loc) : Prop where
  nodup : (binds.map (·.1)).Nodup
  sees : ∀ x y, ρ.lookup x = some y → ∃ v, (x, v) ∈ binds ∧ g.Sees P δ v y

theorem isVar_kind {sc : Scope} {x : Str} (h : isVar sc x = true) : sc.names.lookup x = some .local ∨ sc.names.lookup x = some .cell := by
  unfold isVar at h
  revert h
  cases sc.names.lookup x with
  | none => intro h; cases h
  | some k => cases k <;> intro h <;> first | exact .inl rfl | exact .inr rfl | cases h

theorem Inv.enter {L : Addr} {s₀ s : Shared} {sc : Scope} {binds : List (Str × Value)} {ρ' : Loc} (I : Inv g R P δ env ρ σ s₀.heap) (he : env'.scope = sc) (hL : env'.locals = L) (hc : env'.cells = cellsFrom (s₀.heap.objs.size + 1) sc.names [])
    (hl : L = s₀.heap.objs.size)
    (x : InCallC s₀ L (bindL env'.kindOf binds fun _ => none) env'.cells (bindC env'.kindOf binds fun _ => none) s) (hb : Binds g P δ binds ρ') (hv : ∀ b ∈ binds, isVar sc b.1 = true) :
    Inv g (under R env s₀.heap) P δ env' ρ' σ s.heap := by
  have keep := x.toInCall.keep
  have I' := I.grows keep
  have new : ∀ a, slot env' a → s₀.heap.get? a = none := by
    intro a ha
    cases e : s₀.heap.get? a with
    | none => rfl
    | some o =>
      have hlt := Heap.lt_size e
      rcases ha with rfl | ⟨z, hz, hzc⟩
      · rw [hL, hl] at hlt; exact absurd hlt (Nat.lt_irrefl _)
      · have := x.above z a (mem_of_lookup hzc)
        rw [hl] at this
        exact absurd (Nat.lt_trans hlt this) (Nat.lt_irrefl _)
  have cel : ∀ z, env'.kindOf z = some .cell → ∃ c, env'.cells.lookup z = some c := by
    intro z hz
    have : (env'.cells.lookup z).isSome = true := by
      rw [hc]
      refine cellsFrom_some _ _ _ (.inr (mem_of_lookup ?_))
      rw [← he]; exact hz
    exact Option.isSome_iff_exists.mp this
  refine
  { keepR := fun b o r => keep _ _ (I.keepR b o r), keepU := ?_, part := ?_, keepP := fun b o p => keep _ _ (I.keepP b o p), base := I.base, sep := ?_, loc := ?_, cel := ?_, one := ?_, nloc := ?_, offP := ?_, offR := ?_, offD := ?_, dP := I.dP, dR := ?_, dN := I.dN, len := I.len, objs := I'.objs }
  · rintro b o (r | ⟨hs, e⟩)
    · obtain ⟨sl, e⟩ := I.keepU b o r; exact ⟨sl, keep _ _ e⟩
    · exact ⟨o.slots, keep _ _ e⟩
  · rintro b o o' r (u | ⟨hs, e⟩)
    · exact I.part b o o' r u
    · exact I.offR b o hs (.inl r)
  · intro b o o' p q
    rcases under_any q with r | ⟨hs, e⟩
    · exact I.sep b o o' p r
    · exact absurd p (I.offP b o hs)
  · refine ⟨_, by rw [hL]; exact x.toInCall.ns, fun z y hz => ?_⟩
    obtain ⟨v, hm, hsv⟩ := hb.sees z y hz
    refine ⟨v, hsv, ?_⟩
    rcases isVar_kind (hv _ hm) with hk | hk
    · have hk' : env'.kindOf z = some .local := by show env'.scope.names.lookup z = _; rw [he]; exact hk
      exact .inl ⟨hk', bindL_at _ _ hb.nodup hm hk'⟩
    · have hk' : env'.kindOf z = some .cell := by show env'.scope.names.lookup z = _; rw [he]; exact hk
      obtain ⟨c, hcz⟩ := cel z hk'
      refine .inr (.inl ⟨hk', c, hcz, ?_⟩)
      have := x.cell z c hcz
      rwa [bindC_at _ _ hb.nodup hm hk'] at this
  · intro z hz
    obtain ⟨c, hcz⟩ := cel z hz
    exact ⟨c, _, hcz, x.cell z c hcz⟩
  · intro z y c hz hy hzc hyc
    exact name_of_addr x.apart (mem_of_lookup hzc) (mem_of_lookup hyc)
  · intro z hz e
    have := x.above z _ (mem_of_lookup e)
    rw [hL] at this
    exact Nat.lt_irrefl _ this
  · intro a o ha p
    have := I.keepP _ _ p
    rw [new a ha] at this; cases this
  · intro a o ha q
    rcases under_any q with (r | r) | ⟨hs, e⟩
    · have := I.keepR _ _ r
      rw [new a ha] at this; cases this
    · obtain ⟨sl, this⟩ := I.keepU _ _ r
      rw [new a ha] at this; cases this
    · rw [new a ha] at e; cases e
  · intro a ha hd
    obtain ⟨o, ho⟩ := I.cell_lt hd
    rw [new a ha] at ho; cases ho
  · intro a o hd q
    rcases under_any q with r | ⟨hs, e⟩
    · exact I.dR a o hd r
    · exact I.offD a hs hd
end

section
variable {g : Glo} {n : Nat} {σ σ' : List MO}
theorem AOk.less {A : Around} {n m : Nat} {R : RS} {env : Env} (h : AOk A n R env) (hm : m ≤ n) : AOk A m R env := ⟨h.handled, by have := h.depth; omega, by have := h.units; omega, h.stack⟩
theorem AOk.deeper {A : Around} {n : Nat} {R : RS} {P : PS} {δ : List Addr} {ρ : Loc} {σ : List MO} {h : Heap} {env env' : Env} (a : AOk A (n + 1) R env) (I : Inv g R P δ env ρ σ h) (hk : env'.scope.kind ≠ .module) (hf : env'.frame = some env'.locals) : AOk (A.deeper env') n (under R env h) env' where
  handled := a.handled
  depth := by have := a.depth; show A.depth + 1 + n ≤ 900; omega
  units := by have := a.units; show A.units + 3 + 20 * n ≤ 9000; omega
  stack := by
    obtain ⟨l, _, e1, _, _, _, e2⟩ := a.stack
    refine ⟨env' :: l, _, by show A.frames.map (env' :: ·) = _; rw [e1]; rfl, hf, .inl rfl, ⟨env', l, rfl, hf⟩, fun e he => ?_⟩
    rcases List.mem_cons.mp he with rfl | he
    · exact ⟨hk, _, hf, .inl rfl⟩
    · obtain ⟨k, L, f1, f2⟩ := e2 e he
      refine ⟨k, L, f1, .inr ?_⟩
      rcases f2 with rfl | ⟨o, f2, f3⟩
      · obtain ⟨m, ⟨o, es, ep, ho, hd, _⟩, _⟩ := I.loc
        exact ⟨o, .inr ⟨.inl rfl, ho⟩, fun vs c => by rw [hd] at c; cases c⟩
      · exact ⟨o, .inl f2, f3⟩
theorem AOk.in1 {A : Around} {n : Nat} {R : RS} {env : Env} (h : AOk A (n + 1) R env) : AOk A.in1 n R env := ⟨h.handled, by have := h.depth; show A.depth + n ≤ 900; omega, by have := h.units; show A.units + 1 + 20 * n ≤ 9000; omega, h.stack⟩
theorem AOk.room {A : Around} {n : Nat} {R : RS} {env : Env} (h : AOk A n R env) : A.depth < recursionLimit := by have := h.depth; show A.depth < 1000; omega
theorem zip_sees {P : PS} {δ : List Addr} {z : Str} {y : V} (ρ : Loc) {vs : List Value} (h : g.SeesL P δ vs (ρ.map (·.2))) (e : ρ.lookup z = some y) : ∃ v, (z, v) ∈ (ρ.map (·.1)).zip vs ∧ g.Sees P δ v y := by
  obtain ⟨i, h1, _⟩ := lookup_at e
  obtain ⟨v, hv, hs⟩ := h.get (i := i) (x := y) (by rw [List.getElem?_map, h1]; rfl)
  refine ⟨v, List.mem_iff_getElem?.mpr ⟨i, ?_⟩, hs⟩
  rw [List.getElem?_zip_eq_some]
  exact ⟨by rw [List.getElem?_map, h1]; rfl, hv⟩

/-- a def is called: what it binds, what its body does -/
theorem wp_call_def {d : DefRec} {a : Addr} {o : Obj} {pm : Value} {code : Value} {doc : Value} {vs : List Value} {ρ ρ' : Loc} {A : Around} {R : RS} {P : PS} {δ : List Addr} {env : Env} {s : Shared} {Q : Value → Shared → Prop} {E : Value → Shared → Prop}
    (h2 : g.hb.get? a = some o) (h3 : o.data = .func (docDef d.name d.params d.body d.scope pm code doc)) (h4 : g.hb.CodeRec (docDef d.name d.params d.body d.scope pm code doc).code (docDef d.name d.params d.body d.scope pm code doc).qualname)
    (hA : AOk A (n + 1) R env) (I : Inv g R P δ env ρ σ s.heap)
    (hbind : wpAny (model g.prog g.w) A.in1 (bindArgs (docDef d.name d.params d.body d.scope pm code doc) ⟨vs, []⟩) (fun binds s₁ => ∃ P₁ h₁ tk₁, s₁ = { s with heap := h₁, toks := tk₁ } ∧ (∀ b o, P b o → P₁ b o) ∧ Inv g R P₁ δ env ρ σ h₁ ∧ Binds g P₁ δ binds ρ' ∧ ∀ b ∈ binds, isVar d.scope b.1 = true) NoE s)
    (hrun : ∀ (env' : Env) (P₁ : PS) (h₁ h₂ : Heap) (tk₂ : Nat), (∀ b o, P b o → P₁ b o) → Inv g R P₁ δ env ρ σ h₁ → (∀ b o, h₁.get? b = some o → h₂.get? b = some o) → Inv g (under R env h₁) P₁ δ env' ρ' σ h₂ → EnvOk env' d.scope → AOk (A.deeper env') n (under R env h₁) env' → env'.frame = some env'.locals →
      wpAny (model g.prog g.w) (A.deeper env') (execs d.body env') (fun f s' => Q (match f with | .ret v => v | _ => .none) s') (fun e s' => wpAny (model g.prog g.w) (A.deeper env') (leaving env' e) (fun _ s'' => E e s'') (fun e' s'' => E e' s'') s') { s with heap := h₂, toks := tk₂ })
    (hco : d.scope.isCoroutine = false) (hgen : d.scope.isGenerator = false) (hk : d.scope.kind = .function) : wpAny (model g.prog g.w) A (call (.ref a) vs) Q E s := by
  have keepB : ∀ b o, g.hb.get? b = some o → s.heap.get? b = some o := fun b o e => I.keepR _ _ (I.base _ _ e)
  refine wpAny_call (codeAny_call_function hA.room (keepB _ _ h2) h3 hco hgen rfl (h4.keeps keepB) ?_)
  refine wpAny_mono hbind (fun binds s₁ hb => ?_) fun _ _ e => e.elim
  obtain ⟨P₁, h₁, tk₁, rfl, le, I₁, hbs, hvar⟩ := hb
  refine wpAny_newFunctionEnv_cells hk (fun b hb => ?_) (fun env' he s' x => ?_)
  · rcases isVar_kind (hvar b hb) with hk | hk
    · exact .inl hk
    · exact .inr ⟨hk, cellsFrom_some _ _ _ (.inr (mem_of_lookup hk))⟩
  · subst he
    refine ⟨g.top.nolimit.keeps fun b o e => x.toInCall.keep b o (I₁.keepR _ _ (I₁.base _ _ e)), codeAny_func ?_⟩
    have J := Inv.enter (sc := d.scope) (L := h₁.objs.size) (s₀ := { s with heap := h₁, toks := tk₁ }) I₁ rfl rfl rfl rfl x hbs hvar
    have keep := x.toInCall.keep
    obtain ⟨hh₂, tk₂, rfl⟩ := x.toInCall.same
    exact hrun _ P₁ h₁ hh₂ tk₂ le I₁ keep J ⟨rfl, hk, rfl, rfl⟩ (hA.deeper I₁ (by show d.scope.kind ≠ _; rw [hk]; decide) rfl) rfl

/-- a def, by what its body does -/
theorem fn_gen {d : DefRec} {args : List V} {x : V} {ρ' : Loc} (hd : d ∈ recsOf g.p)
    (hbind : ∀ pm cd doc (ρ : Loc) (A : Around) (R : RS) (P : PS) (δ : List Addr) (env : Env) (s : Shared) (vs : List Value), Inv g R P δ env ρ σ s.heap → g.SeesL P δ vs args →
      wpAny (model g.prog g.w) A (bindArgs (docDef d.name d.params d.body d.scope pm cd doc) ⟨vs, []⟩) (fun binds s₁ => ∃ P₁ h₁ tk₁, s₁ = { s with heap := h₁, toks := tk₁ } ∧ (∀ b o, P b o → P₁ b o) ∧ Inv g R P₁ δ env ρ σ h₁ ∧ Binds g P₁ δ binds ρ' ∧ ∀ b ∈ binds, isVar d.scope b.1 = true) NoE s)
    (hbody : Ex g d.scope n d.body ρ' σ (fun o => o = .rt x σ' ∨ (x = .none ∧ ∃ r, o = .nx r σ')))
    (hco : d.scope.isCoroutine = false := by rfl) (hgen : d.scope.isGenerator = false := by rfl) (hk : d.scope.kind = .function := by rfl) : Fn g (n + 1) d.name args σ x σ' := by
  obtain ⟨a, o, pm, code, doc, h1, h2, h3, h4⟩ := g.top.fn d hd
  refine ⟨a, o, _, h1, h2, h3, ?_⟩
  intro env ρ A R P δ s Q vs hA I hvs h
  refine wp_call_def h2 h3 h4 hA I (hbind pm code doc ρ A.in1 R P δ env s vs I hvs) (fun env' P₁ h₁ h₂ tk₂ le I₁ keep J O' A' hf => ?_) hco hgen hk
  refine wpAny_mono (hbody.run env' _ _ P₁ δ { s with heap := h₂, toks := tk₂ } (fun f s' => Q (match f with | .ret v => v | _ => .none) s') O' A' J ?_) (fun _ _ z => z) fun _ _ e => e.elim
  rintro o (rfl | ⟨rfl, r, rfl⟩)
  · intro v P' δ' h' tk' le' pr' J' hs
    exact h v P' δ' h' tk' (fun b o z => le' b o (le b o z)) pr' (I₁.back J' le' pr') hs
  · intro P' δ' h' tk' le' pr' J'
    exact h .none P' δ' h' tk' (fun b o z => le' b o (le b o z)) pr' (I₁.back (J'.forget fun x y e => by cases e) le' pr') .none
/-- arguments bound one by one -/
theorem bind_plain {d : DefRec} {args : List V} (names : List Str) (hbind : ∀ pm cd doc vs, vs.length = args.length → bindArgs (docDef d.name d.params d.body d.scope pm cd doc) ⟨vs, []⟩ = pure (names.zip vs)) (hl : names.length = args.length) (hn : names.Nodup) (hv : names.all (isVar d.scope) = true) (pm cd doc) (ρ : Loc) (A : Around) (R : RS) (P : PS) (δ : List Addr) (env : Env) (s : Shared) (vs : List Value) (I : Inv g R P δ env ρ σ s.heap) (hvs : g.SeesL P δ vs args) :
    wpAny (model g.prog g.w) A (bindArgs (docDef d.name d.params d.body d.scope pm cd doc) ⟨vs, []⟩) (fun binds s₁ => ∃ P₁ h₁ tk₁, s₁ = { s with heap := h₁, toks := tk₁ } ∧ (∀ b o, P b o → P₁ b o) ∧ Inv g R P₁ δ env ρ σ h₁ ∧ Binds g P₁ δ binds (names.zip args) ∧ ∀ b ∈ binds, isVar d.scope b.1 = true) NoE s := by
  have hlen := hvs.length
  rw [hbind pm cd doc vs hlen]
  have e1 : (names.zip vs).map (·.1) = names := List.map_fst_zip (by omega)
  have e2 : (names.zip args).map (·.1) = names := List.map_fst_zip (by omega)
  have e3 : (names.zip args).map (·.2) = args := List.map_snd_zip (by omega)
  refine wpAny_pure ⟨P, s.heap, s.toks, rfl, fun _ _ z => z, I, ⟨by rw [e1]; exact hn, fun z y e => ?_⟩, fun b hb => List.all_eq_true.mp hv b.1 (by rw [← e1]; exact List.mem_map_of_mem hb)⟩
  have := zip_sees (names.zip args) (by rw [e3]; exact hvs) e
  rwa [e2] at this
end
end Mine
end
section
open PySem PySem.W PyProof.Rows PySem.Calls
set_option Elab.async false
set_option linter.unusedVariables false
namespace Mine

/-- the names of the builtins that the text reads: it binds none of them -/
noncomputable def bltNames : List Str := ["type", "issubclass", "isinstance", "str", "bytes", "len", "min", "max", "abs", "chr", "sum", "tuple", "map", "enumerate", "zip", "ValueError", "TypeError", "AttributeError", "BytesWarning"]

structure Has (g : Glo) (pr : Program) : Prop where
  defs : ∀ (i : Nat) (name : Str) (params : Arguments) (body : List Stmt) (decs : List Expr) (ret : Option Expr) (tps : List TypeParam) (scope : Scope) (ts : Option Scope) (bind : Str) (pos : Pos),
    pr.main.body[i]? = some (.FunctionDef name params body decs ret tps scope ts bind pos) → 9 ≤ i → (⟨name, params, body, scope, pos⟩ : DefRec) ∈ recsOf g.p
  blt : ∀ x ∈ bltNames, g.mg x = none

noncomputable def isGlob (sc : Scope) (x : Str) : Bool := sc.names.lookup x == some .globalImplicit && !(x == ("__debug__" : Str))

section
variable {g : Glo} {sc : Scope} {n : Nat} {ρ : Loc} {σ σ₁ σ₂ σ₃ : List MO} {pr : Program}

theorem wp_global {M : Model} {A : Around} {E : Value → Shared → Prop} {env : Env} {R : RS} {P : PS} {δ : List Addr} {s : Shared} {x : Str} {p : Pos} {v : Value} {Q : Value → Shared → Prop} (O : EnvOk env sc) (I : Inv g R P δ env ρ σ s.heap)
    (hx : isGlob sc x = true) (hv : g.mg x = some v) (h : Q v s) : wpAny M A (eval (.Name x p) env) Q E s := by
  unfold isGlob at hx
  obtain ⟨h1, h2⟩ := Bool.and_eq_true_iff.mp hx
  refine Name_function_global (by rw [O.scope]; exact O.kind) (by show env.scope.names.lookup x = _; rw [O.scope]; exact beq_iff_eq.mp h1) (loadGlobal_global (by rw [O.globals]; exact g.top.g.keeps fun b o e => I.keepR _ _ (I.base _ _ e)) hv h) (by simpa using h2)
theorem wp_builtin {M : Model} {A : Around} {E : Value → Shared → Prop} {env : Env} {R : RS} {P : PS} {δ : List Addr} {s : Shared} {x : Str} {p : Pos} {v : Value} {Q : Value → Shared → Prop} (O : EnvOk env sc) (I : Inv g R P δ env ρ σ s.heap)
    (hx : isGlob sc x = true) (hm : g.mg x = none) (hv : bootBuiltins x = some v) (hn : x ≠ "__name__") (h : Q v s) : wpAny M A (eval (.Name x p) env) Q E s := by
  unfold isGlob at hx
  obtain ⟨h1, h2⟩ := Bool.and_eq_true_iff.mp hx
  have keep : ∀ b o, g.hb.get? b = some o → s.heap.get? b = some o := fun b o e => I.keepR _ _ (I.base _ _ e)
  refine Name_function_global (by rw [O.scope]; exact O.kind) (by show env.scope.names.lookup x = _; rw [O.scope]; exact beq_iff_eq.mp h1)
    (loadGlobal_builtin (by rw [O.globals]; exact g.top.g.keeps keep) hm (by rw [O.builtins]; exact g.top.b.keeps keep) ((g.top.builtins x hn).trans hv) h) (by simpa using h2)

theorem ev_type {x : Str} {p : Pos} {T : String} (hx : isGlob sc x = true := by decide +kernel) (hm : g.mg x = none := by first | assumption | exact (‹Has g _›).blt _ (by decide +kernel)) (hv : bootBuiltins x = some (.type T) := by decide +kernel) (hn : x ≠ "__name__" := by decide +kernel) : Ev g sc n (.Name x p) ρ σ (.ty T) σ :=
  .mk fun env A R P δ s Q O hA I h => wp_builtin O I hx hm hv hn (stay s.toks I h (.ty T))
theorem ev_fn {f : Str} {p : Pos} {a : Addr} (hx : isGlob sc f = true) (hf : g.mg f = some (.ref a)) : Ev g sc n (.Name f p) ρ σ (.fn f) σ :=
  .mk fun env A R P δ s Q O hA I h => wp_global O I hx hf (stay s.toks I h (.fn _ _ hf))

-- lists of arguments
noncomputable def isStar : Expr → Bool
  | .Starred .. => true
  | _ => false
theorem starEach_cons {e : Expr} (h : isStar e = false) (es : List Expr) (env : Env) : starEach (e :: es) env = (false, eval e env) :: starEach es env := by
  cases e <;> first | rfl | cases h

theorem evl_nil {pos : Pos} : EvL g sc n pos [] ρ σ [] σ := .mk fun env A R P δ s Q O hA I h => spliced_nil (stay s.toks I h .nil)
theorem evl_cons {pos : Pos} {e : Expr} {es : List Expr} {x : V} {xs : List V} (h1 : Ev g sc n e ρ σ x σ₁) (h2 : EvL g sc n pos es ρ σ₁ xs σ₂) (he : isStar e = false := by rfl) : EvL g sc n pos (e :: es) ρ σ (x :: xs) σ₂ := by
  refine .mk ?_
  intro env A R P δ s Q O hA I h
  show wpAny _ A (spliced (backTo pos (starEach (e :: es) env))) Q NoE s
  rw [starEach_cons he]
  refine spliced_cons (h1.run env A R P δ s _ O hA I fun v P₁ δ₁ hh₁ tk₁ le₁ pr₁ I₁ s₁ => ?_)
  exact h2.run env A R P₁ δ₁ _ _ O hA I₁ fun vs P₂ δ₂ hh₂ tk₂ le₂ pr₂ I₂ s₂ => h (v :: vs) P₂ δ₂ hh₂ tk₂ (fun b o z => le₂ b o (le₁ b o z)) (pr₁.trans pr₂) I₂ (.cons (s₁.mono le₂ pr₂) s₂)

/-- a value's items, handed on one by one -/
noncomputable def Unrolls (M : Model) (A : Around) (v : Value) (K : List Value → Shared → Prop) (s : Shared) : Prop := wpAny M A (notIterableAtAll v) (fun no s' => no = false ∧ wpAny M A (collect v) K NoE s') NoE s
theorem spliced_unroll {M : Model} {A : Around} {s : Shared} {x : Sem Value} {l : List (Bool × Sem Value)} {Q : List Value → Shared → Prop}
    (h : wpAny M A x (fun v s₁ => Unrolls M A v (fun us s₂ => wpAny M A (spliced l) (fun vs s₃ => Q (us ++ vs) s₃) NoE s₂) s₁) NoE s) : wpAny M A (spliced ((true, x) :: l)) Q NoE s := by
  have last : ∀ (us : List Value) (s₂ : Shared), wpAny M A (spliced l) (fun vs s₃ => Q (us ++ vs) s₃) NoE s₂ → wpAny M A (do return us ++ (← holding us (spliced l))) Q NoE s₂ := fun us s₂ h₂ =>
    wpAny_bind (wpAny_holding (wpAny_mono h₂ (fun vs s₃ h₃ => wpAny_pure h₃) fun _ _ e => e))
  rw [spliced]
  refine wpAny_bind (wpAny_mono h (fun v s₁ h₁ => ?_) fun _ _ e => e)
  have h₁ : wpAny M A (notIterableAtAll v) _ NoE s₁ := h₁
  simp only [if_true]
  refine wpAny_bind (wpAny_mono h₁ (fun no s' h' => ?_) fun _ _ e => e)
  obtain ⟨rfl, h'⟩ := h'
  simp only [Bool.false_eq_true, if_false]
  exact wpAny_bind (wpAny_mono h' (fun us s₂ h₂ => last us s₂ h₂) fun _ _ e => e)

theorem wp_star {A : Around} {env : Env} {R : RS} {P : PS} {δ : List Addr} {s : Shared} {v : Value} {xs : List V} {Q : List Value → Shared → Prop} (I : Inv g R P δ env ρ σ s.heap) (hv : g.Sees P δ v (.list xs) ∨ g.Sees P δ v (.tup xs)) (hz : xs.length ≤ 16777216)
    (h : ∀ vs h', g.SeesL P δ vs xs → Inv g R P δ env ρ σ h' → Q vs { s with heap := h' }) : Unrolls (model g.prog g.w) A v Q s := by
  obtain ⟨a, o, vs, k, T, rfl, hp, hc, hd, hs, hT⟩ : ∃ a o vs k T, v = .ref a ∧ P a o ∧ o.cls = .type T ∧ o.data = .seq (vs : List Value).toArray k ∧ g.SeesL P δ vs xs ∧ (T = "list" ∨ T = "tuple") := by
    rcases hv with hv | hv
    · obtain ⟨a, o, vs, k, e, h1, h2, h3, h4⟩ := hv.tells
      exact ⟨a, o, vs, k, _, e, h1, h2, h3, h4, .inl rfl⟩
    · obtain ⟨a, o, vs, k, e, h1, h2, h3, h4⟩ := hv.tells
      exact ⟨a, o, vs, k, _, e, h1, h2, h3, h4, .inr rfl⟩
  have D := I.keepP _ _ hp
  have hT' : s.TypeIs (.ref a) T := ⟨o, D, hc⟩
  have z : wpAny (model g.prog g.w) A (collect (.ref a)) Q NoE s := by
    refine wpAny_collect_seq (items := vs.toArray) a hT D hc hd (fun h' hk => ?_) (by rw [List.size_toArray, hs.length, sizeLine_eq]; exact hz)
    exact h _ h' hs (I.grows hk)
  unfold Unrolls notIterableAtAll
  rcases hT with rfl | rfl
  · exact wpAny_bind (wpAny_specialOf hT' PySem.F.slot_list_iter.lookup (wpAny_pure ⟨rfl, z⟩))
  · exact wpAny_bind (wpAny_specialOf hT' PySem.F.slot_tuple_iter.lookup (wpAny_pure ⟨rfl, z⟩))

theorem evl_star {pos p : Pos} {e : Expr} {es : List Expr} {xs ys : List V} (h1 : Ev g sc n e ρ σ (.list xs) σ₁ ∨ Ev g sc n e ρ σ (.tup xs) σ₁) (hz : xs.length ≤ 16777216) (h2 : EvL g sc n pos es ρ σ₁ ys σ₂) : EvL g sc n pos (.Starred e p :: es) ρ σ (xs ++ ys) σ₂ := by
  refine .mk ?_
  intro env A R P δ s Q O hA I h
  have go : ∀ v P₁ δ₁ hh₁ tk₁, (∀ b o, P b o → P₁ b o) → δ <+: δ₁ → Inv g R P₁ δ₁ env ρ σ₁ hh₁ → (g.Sees P₁ δ₁ v (.list xs) ∨ g.Sees P₁ δ₁ v (.tup xs)) →
      Unrolls (model g.prog g.w) A v (fun here s₂ => wpAny (model g.prog g.w) A (spliced (backTo pos (starEach es env))) (fun vs s₃ => Q (here ++ vs) s₃) NoE s₂) { s with heap := hh₁, toks := tk₁ } := by
    intro v P₁ δ₁ hh₁ tk₁ le₁ pr₁ I₁ s₁
    refine wp_star (s := { s with heap := hh₁, toks := tk₁ }) I₁ s₁ hz fun vs h' hs I' => ?_
    exact h2.run env A R P₁ δ₁ _ _ O hA I' fun us P₂ δ₂ hh₂ tk₂ le₂ pr₂ I₂ s₂ => h (vs ++ us) P₂ δ₂ hh₂ tk₂ (fun b o z => le₂ b o (le₁ b o z)) (pr₁.trans pr₂) I₂ ((hs.mono le₂ pr₂).append s₂)
  show wpAny _ A (spliced ((true, eval e env >>= fun v => standAt pos >>= fun _ => pure v) :: backTo pos (starEach es env))) Q NoE s
  refine spliced_unroll (wpAny_bind ?_)
  rcases h1 with h1 | h1
  · exact h1.run env A R P δ s _ O hA I fun v P₁ δ₁ hh₁ tk₁ le₁ pr₁ I₁ s₁ => wpAny_bind (wpAny_standAt (wpAny_pure (go v P₁ δ₁ hh₁ tk₁ le₁ pr₁ I₁ (.inl s₁))))
  · exact h1.run env A R P δ s _ O hA I fun v P₁ δ₁ hh₁ tk₁ le₁ pr₁ I₁ s₁ => wpAny_bind (wpAny_standAt (wpAny_pure (go v P₁ δ₁ hh₁ tk₁ le₁ pr₁ I₁ (.inr s₁))))

noncomputable def firstPlain : List Expr → Bool
  | [] => true
  | e :: _ => !isStar e
theorem evalArgs_first {M : Model} {A : Around} {E : Value → Shared → Prop} {s : Shared} {env : Env} {f : Value} {pos : Pos} {args : List Expr} {Q : Args → Shared → Prop} (hf : firstPlain args = true)
    (h : wpAny M A (spliced (backTo pos (starEach args env))) (fun vs s' => Q ⟨vs, []⟩ s') E s) : wpAny M A (evalArgs f true (backTo pos (starEach args env)) []) Q E s := by
  cases args with
  | nil =>
    unfold evalArgs
    show wpAny M A (spliced [] >>= _) Q E s
    refine wpAny_bind (wpAny_mono h (fun vs s' h' => ?_) fun _ _ x => x)
    refine wpAny_holding ?_
    exact wpAny_bind (wpAny_pure (wpAny_bind (wpAny_pure (wpAny_pure h'))))
  | cons e es =>
    have he : isStar e = false := by simpa [firstPlain] using hf
    rw [starEach_cons he] at h ⊢
    exact evalArgs_plain h

/-- a def of the text is called -/
theorem ev_call {f : Str} {pf pos : Pos} {args : List Expr} {xs : List V} {x : V} (m : Nat) (h1 : EvL g sc n pos args ρ σ xs σ₁) (h2 : Fn g m f xs σ₁ x σ₂) (hf : isGlob sc f = true := by decide +kernel) (hm : m ≤ n := by decide) (hp : firstPlain args = true := by rfl) :
    Ev g sc n (.Call (.Name f pf) args [] pos) ρ σ x σ₂ := by
  refine .mk ?_
  intro env A R P δ s Q O hA I h
  obtain ⟨a, o, fd, e1, e2, e3, e4⟩ := h2
  refine wpAny_Call_NameR (wp_global O I hf e1 (callWith_function (o := o) (fd := fd) (evalArgs_first hp ?_)))
  refine h1.run env A R P δ s _ O hA I fun vs P₁ δ₁ hh₁ tk₁ le₁ pr₁ I₁ s₁ => ⟨⟨I₁.keepR _ _ (I₁.base _ _ e2), e3⟩, ?_⟩
  exact e4 env ρ A R P₁ δ₁ _ Q vs (hA.less hm) I₁ s₁ fun v P₂ δ₂ hh₂ tk₂ le₂ pr₂ I₂ s₂ => h v P₂ δ₂ hh₂ tk₂ (fun b o z => le₂ b o (le₁ b o z)) (pr₁.trans pr₂) I₂ s₂

noncomputable def noStar (args : List Expr) : Bool := args.all (fun e => !isStar e)
theorem noStar_any : ∀ {args : List Expr} {env : Env} {pos : Pos}, noStar args = true → (backTo pos (starEach args env)).any (·.1) = false
  | [], _, _, _ => rfl
  | e :: es, env, pos, h => by
    unfold noStar at h
    rw [List.all_cons] at h
    obtain ⟨h1, h2⟩ := Bool.and_eq_true_iff.mp h
    rw [starEach_cons (by simpa using h1)]
    show (false || (backTo pos (starEach es env)).any (·.1)) = false
    rw [noStar_any h2]; rfl
theorem noStar_first : ∀ {args : List Expr}, noStar args = true → firstPlain args = true
  | [], _ => rfl
  | _ :: _, h => by
    unfold noStar at h
    rw [List.all_cons] at h
    exact (Bool.and_eq_true_iff.mp h).1

/-- a builtin is called by its name -/
theorem ev_blt {f : Str} {pf pos : Pos} {id : String} {args : List Expr} {xs : List V} {x : V} (h1 : EvL g sc n pos args ρ σ xs σ₁) (h2 : Op g n σ₁ xs (fun vs => call (.builtin id) vs) (fun P δ v => g.Sees P δ v x) σ₂) (hf : isGlob sc f = true := by decide +kernel) (hm : g.mg f = none := by first | assumption | exact (‹Has g _›).blt _ (by decide +kernel)) (hv : bootBuiltins f = some (.builtin id) := by decide +kernel) (hn : f ≠ "__name__" := by decide +kernel) (hp : noStar args = true := by rfl) : Ev g sc n (.Call (.Name f pf) args [] pos) ρ σ x σ₂ := by
  refine .mk ?_
  intro env A R P δ s Q O hA I h
  refine wpAny_Call_NameR (wp_builtin O I hf hm hv hn (callWith_builtin (noStar_any hp) (evalArgs_first (noStar_first hp) ?_)))
  refine h1.run env A R P δ s _ O hA I fun vs P₁ δ₁ hh₁ tk₁ le₁ pr₁ I₁ s₁ => ?_
  exact h2 env ρ A R P₁ δ₁ _ Q vs hA I₁ s₁ fun v P₂ δ₂ hh₂ tk₂ le₂ pr₂ I₂ s₂ => h v P₂ δ₂ hh₂ tk₂ (fun b o z => le₂ b o (le₁ b o z)) (pr₁.trans pr₂) I₂ s₂
theorem ev_typecall {f : Str} {pf pos : Pos} {T : String} {args : List Expr} {xs : List V} {x : V} (h1 : EvL g sc n pos args ρ σ xs σ₁) (h2 : Op g n σ₁ xs (fun vs => call (.type T) vs) (fun P δ v => g.Sees P δ v x) σ₂) (hf : isGlob sc f = true := by decide +kernel) (hm : g.mg f = none := by first | assumption | exact (‹Has g _›).blt _ (by decide +kernel)) (hv : bootBuiltins f = some (.type T) := by decide +kernel) (hn : f ≠ "__name__" := by decide +kernel) (hp : noStar args = true := by rfl) : Ev g sc n (.Call (.Name f pf) args [] pos) ρ σ x σ₂ := by
  refine .mk ?_
  intro env A R P δ s Q O hA I h
  refine wpAny_Call_NameR (wp_builtin O I hf hm hv hn (PySem.callWith_type (noStar_any hp) (evalArgs_first (noStar_first hp) ?_)))
  refine h1.run env A R P δ s _ O hA I fun vs P₁ δ₁ hh₁ tk₁ le₁ pr₁ I₁ s₁ => ?_
  exact h2 env ρ A R P₁ δ₁ _ Q vs hA I₁ s₁ fun v P₂ δ₂ hh₂ tk₂ le₂ pr₂ I₂ s₂ => h v P₂ δ₂ hh₂ tk₂ (fun b o z => le₂ b o (le₁ b o z)) (pr₁.trans pr₂) I₂ s₂
end
end Mine
end
section
open PySem PySem.W PyProof.Rows PySem.Calls
set_option Elab.async false
set_option linter.unusedVariables false
namespace Mine

/-- a slice by ones -/
noncomputable def psl {α : Type} (l : List α) (lo hi : Option Int) : List α := (l.drop (lo.elim 0 (clipAt l.length))).take (hi.elim l.length (clipAt l.length) - lo.elim 0 (clipAt l.length))
theorem psl_length {α : Type} (l : List α) (lo hi : Option Int) : (psl l lo hi).length ≤ l.length := by
  unfold psl; rw [List.length_take, List.length_drop]; omega
theorem psl_map {α β : Type} (f : α → β) (l : List α) (lo hi : Option Int) : psl (l.map f) lo hi = (psl l lo hi).map f := by
  unfold psl; rw [List.length_map, List.map_take, List.map_drop]
theorem psl_full {α : Type} {l : List α} {lo hi : Option Int} (h : (psl l lo hi).length = l.length) : psl l lo hi = l := by
  have hs : (psl l lo hi).Sublist l := (List.take_sublist _ _).trans (List.drop_sublist _ _)
  exact hs.eq_of_length h
theorem psl_upto {α : Type} (l : List α) (k : Nat) : psl l none (some (k : Int)) = l.take k := by
  unfold psl
  simp only [Option.elim, clipAt_nat, List.drop_zero, Nat.sub_zero]
  rcases Nat.le_total k l.length with h | h
  · rw [Nat.min_eq_left h]
  · rw [Nat.min_eq_right h, List.take_of_length_le (Nat.le_refl _), List.take_of_length_le h]
theorem psl_from {α : Type} (l : List α) (k : Nat) : psl l (some (k : Int)) none = l.drop k := by
  unfold psl
  simp only [Option.elim, clipAt_nat]
  rcases Nat.le_total k l.length with h | h
  · rw [Nat.min_eq_left h, List.take_of_length_le (by simp)]
  · rw [Nat.min_eq_right h, List.drop_of_length_le (by simp), List.drop_of_length_le h]; simp
theorem psl_mid {α : Type} (l : List α) (a b : Nat) : psl l (some (a : Int)) (some (b : Int)) = (l.take b).drop a := by
  unfold psl
  simp only [Option.elim, clipAt_nat]
  rw [List.drop_take]
  rcases Nat.le_total a l.length with h | h
  · rw [Nat.min_eq_left h]
    rcases Nat.le_total b l.length with h' | h'
    · rw [Nat.min_eq_left h']
    · rw [Nat.min_eq_right h', List.take_of_length_le (by simp), List.take_of_length_le (by simp; omega)]
  · rw [Nat.min_eq_right h, List.drop_of_length_le (Nat.le_refl _), List.drop_of_length_le h]; simp
theorem S8_list (l : List UInt8) : (S8 l).cps.toList = l.map UInt8.toNat := by simp [S8]
theorem S8_len (l : List UInt8) : (S8 l).length = l.length := by simp [S8, Str.length]
theorem S8_append (a b : List UInt8) : S8 a ++ S8 b = S8 (a ++ b) := by
  apply Str.ext'
  rw [Str.cps_append]
  simp [S8]
theorem map_toNat_inj {a b : List UInt8} (h : a.map UInt8.toNat = b.map UInt8.toNat) : a = b :=
  (List.map_inj_right (fun x y e => UInt8.toNat_inj.mp e)).mp h
theorem map_toNat_beq (a b : List UInt8) : (a.map UInt8.toNat == b.map UInt8.toNat) = (a == b) := by
  rw [Bool.eq_iff_iff, beq_iff_eq, beq_iff_eq]
  exact ⟨map_toNat_inj, fun e => by rw [e]⟩

theorem txt_slice (x : Str) (lo hi : Option Int) : Txt.slice x lo hi = ⟨(psl x.cps.toList lo hi).toArray⟩ := by
  have e : Builtin.Str.strSliceIndices lo hi 1 x.length = (List.range ((hi.elim x.length (clipAt x.length)) - lo.elim 0 (clipAt x.length))).map (lo.elim 0 (clipAt x.length) + ·) := by
    unfold Builtin.Str.strSliceIndices
    have := sliceBounds_plain lo hi x.length
    rw [← sliceRange_one]
    cases lo <;> cases hi <;> simp [clipAt_cast]
  have hl : x.cps.toList.length = x.length := by simp [Str.length]
  have hp : ((Builtin.Str.strSliceIndices lo hi 1 x.length).filterMap (x.cps[·]?)) = psl x.cps.toList lo hi := by
    rw [e, pick_run]; unfold psl; rw [hl]
  unfold Txt.slice
  rw [hp]
  split
  · rename_i h
    have h' : (Builtin.Str.strSliceIndices lo hi 1 x.length).length = x.length := by simpa using h
    have : (psl x.cps.toList lo hi).length = x.cps.toList.length := by
      unfold psl
      rw [hl]
      rw [e, List.length_map, List.length_range] at h'
      rw [List.length_take, List.length_drop, hl]
      have hc : ∀ i, clipAt x.length i ≤ x.length := fun i => by have := clipAt_cast x.length i; omega
      cases hi with
      | none => simp only [Option.elim] at h' ⊢; omega
      | some j => simp only [Option.elim] at h' ⊢; have := hc j; omega
    rw [psl_full this]
  · rfl

section
variable {g : Glo} {sc : Scope} {n : Nat} {ρ : Loc} {σ σ₁ σ₂ σ₃ : List MO}

theorem op_add_s {a b : List UInt8} (hz : a.length + b.length ≤ 16777216) : Op2 g n σ (binaryOp .Add) (.tx .s a) (.tx .s b) (.tx .s (a ++ b)) σ := .of fun env ρ A R P δ s Q v u hA I hv hu h => by
  obtain ⟨t, rfl⟩ := hv.tells
  obtain ⟨u, rfl⟩ := hu.tells
  refine SB.add (fun t' k => ?_) (by rw [S8_len, S8_len, sizeLine_eq]; exact hz)
  rw [S8_append]
  exact stay k I h (.str _ _)
theorem op_eq_tx {k : Kd} {a b : List UInt8} : Op2 g n σ (compareOp .Eq) (.tx k a) (.tx k b) (.bool (a == b)) σ := .of fun env ρ A R P δ s Q v u hA I hv hu h => by
  cases k with
  | s =>
    obtain ⟨t, rfl⟩ := hv.tells
    obtain ⟨u, rfl⟩ := hu.tells
    refine PySem.P.eq_str ?_
    rw [S8_list, S8_list, map_toNat_beq]
    exact stay s.toks I h (.bool _)
  | b =>
    obtain ⟨t, rfl⟩ := hv.tells
    obtain ⟨u, rfl⟩ := hu.tells
    refine eq_bytes ?_
    simp only
    exact stay s.toks I h (.bool _)
theorem op_ne_tx {k : Kd} {a b : List UInt8} : Op2 g n σ (compareOp .NotEq) (.tx k a) (.tx k b) (.bool (a != b)) σ := .of fun env ρ A R P δ s Q v u hA I hv hu h => by
  cases k with
  | s =>
    obtain ⟨t, rfl⟩ := hv.tells
    obtain ⟨u, rfl⟩ := hu.tells
    refine PySem.P.ne_str ?_
    rw [S8_list, S8_list, bne, map_toNat_beq]
    exact stay s.toks I h (.bool _)
  | b =>
    obtain ⟨t, rfl⟩ := hv.tells
    obtain ⟨u, rfl⟩ := hu.tells
    refine ne_bytes ?_
    simp only
    exact stay s.toks I h (.bool _)
theorem tr_tx {k : Kd} {a : List UInt8} (hz : a.length ≤ 16777216) : Tr g n σ (.tx k a) (!a.isEmpty) := .of fun env ρ A R P δ s Q v hA I hv h => by
  have e : ((a.length : Int) != 0) = !a.isEmpty := by
    cases a with
    | nil => rfl
    | cons c r => rw [Bool.eq_iff_iff]; simp; omega
  cases k with
  | s =>
    obtain ⟨t, rfl⟩ := hv.tells
    refine PySem.P.truthy_str (by rw [S8_len]; omega) ?_
    rw [S8_len, e]
    exact h P δ s.heap _ (fun _ _ z => z) (List.prefix_refl _) I
  | b =>
    obtain ⟨t, rfl⟩ := hv.tells
    refine truthy_bytes (by simp; omega) ?_
    rw [show ((a.toArray.size : Int) != 0) = ((a.length : Int) != 0) by simp, e]
    exact h P δ s.heap _ (fun _ _ z => z) (List.prefix_refl _) I
theorem op_len_tx {k : Kd} {a : List UInt8} (hz : a.length ≤ 16777216) : Op g n σ [.tx k a] (fun vs => call (.builtin "len") vs) (fun P δ v => g.Sees P δ v (.int a.length)) σ := by
  intro env ρ A R P δ s Q vs hA I hv h
  obtain ⟨v, rfl, hv1⟩ := hv.one
  replace hv := hv1
  cases k with
  | s =>
    obtain ⟨t, rfl⟩ := hv.tells
    refine PySem.P.len_str (by rw [S8_len]; omega) ?_
    rw [S8_len]
    exact stay _ I h (.int _ _)
  | b =>
    obtain ⟨t, rfl⟩ := hv.tells
    refine len_bytes (by simp; omega) ?_
    rw [show (a.toArray.size : Int) = (a.length : Int) by simp]
    exact stay _ I h (.int _ _)

noncomputable def rep (n : Nat) (a : List UInt8) : List UInt8 := (List.replicate n a).flatten
theorem txt_mul (a : List UInt8) (m : Nat) : Txt.mul (S8 a) (m : Int) = S8 (rep m a) := by
  unfold Txt.mul
  have fold : ∀ (k : Nat) (acc : List Nat), (List.replicate k (S8 a).cps).foldl (· ++ ·) acc.toArray = (acc ++ (List.replicate k (a.map UInt8.toNat)).flatten).toArray := by
    intro k
    induction k with
    | zero => intro acc; simp
    | succ k ih =>
      intro acc
      rw [List.replicate_succ, List.foldl_cons]
      have : acc.toArray ++ (S8 a).cps = (acc ++ a.map UInt8.toNat).toArray := by simp [S8]
      rw [this, ih, List.replicate_succ]
      simp
  have hr : ∀ k : Nat, S8 (rep k a) = ⟨((List.replicate k (a.map UInt8.toNat)).flatten).toArray⟩ := by
    intro k
    unfold S8 rep
    rw [List.map_flatten, List.map_replicate]
  split
  · rename_i h0
    have : m = 0 := by omega
    subst this
    rfl
  · split
    · rename_i h1
      rw [Bool.or_eq_true] at h1
      rcases h1 with h1 | h1
      · have : m = 1 := by have := beq_iff_eq.mp h1; omega
        subst this
        rw [hr]
        simp [S8]
      · rw [S8_len] at h1
        have : a = [] := List.length_eq_zero_iff.mp (beq_iff_eq.mp h1)
        subst this
        rw [hr]
        simp [S8]
    · rw [hr, Int.toNat_natCast]
      have := fold m []
      rw [show ([] : List Nat).toArray = #[] from rfl] at this
      rw [this]
      simp
theorem op_mul_s {a : List UInt8} {m : Nat} (ha : a ≠ []) (ha' : a.length ≤ 16) (hm : m ≤ 1048576) : Op2 g n σ (binaryOp .Mult) (.tx .s a) (.int (m : Int)) (.tx .s (rep m a)) σ := .of fun env ρ A R P δ s Q v u hA I hv hu h => by
  obtain ⟨u, rfl⟩ := hu.tells
  obtain ⟨t, rfl⟩ := hv.tells
  refine SB.mul ⟨?_, ?_, ?_⟩ (fun t' k => ?_)
  · have h1 : ¬ ((m : Int) < -(2 ^ 63 : Int)) := by omega
    have h2 : ¬ ((m : Int) ≥ 2 ^ 63) := by omega
    rw [decide_eq_false h1, decide_eq_false h2]; rfl
  · intro h1 h2
    rw [S8_len]
    have hmp : 1 ≤ (m : Int) := by omega
    have : (16 : Int) ≤ (2 ^ 63 - 1) / (m : Int) := by
      rw [Int.le_ediv_iff_mul_le (by omega)]; omega
    omega
  · intro h1 h2
    rw [S8_len, Int.toNat_natCast]
    have : a.length * m ≤ 16 * 1048576 := Nat.mul_le_mul ha' hm
    unfold Builtin.Str.tooLong
    simp only [decide_eq_false_iff_not]
    first | omega | (rw [sizeLine_eq]; omega)
  · rw [txt_mul]
    exact stay k I h (.str _ _)
end
end Mine
end
section
open PySem PySem.W PyProof.Rows PySem.Calls
set_option Elab.async false
set_option linter.unusedVariables false
namespace Mine

/-- a list's items, in a tree or in a cell -/
noncomputable def LV (σ : List MO) (x : V) (xs : List V) : Prop := x = .list xs ∨ ∃ i, x = .cell i ∧ σ[i]? = some (.list xs)
/-- a dict's pairs, in a tree or in a cell -/
noncomputable def DV (σ : List MO) (x : V) (xs : List (Str × V)) : Prop := x = .fdict xs ∨ ∃ i, x = .cell i ∧ σ[i]? = some (.dict xs)

section
variable {g : Glo} {R : RS} {P : PS} {δ : List Addr} {env : Env} {ρ : Loc} {σ σ₁ σ₂ σ₃ : List MO} {h : Heap} {sc : Scope} {n : Nat}

theorem Inv.listOf (I : Inv g R P δ env ρ σ h) {x : V} {xs : List V} {v : Value} (hx : LV σ x xs) (hv : g.Sees P δ v x) : ∃ a vs, v = .ref a ∧ h.IsList a (vs : List Value).toArray ∧ g.SeesL P δ vs xs := by
  rcases hx with rfl | ⟨i, rfl, hi⟩
  · obtain ⟨a, o, vs, m, rfl, h1, h2, h3, h4⟩ := hv.tells
    exact ⟨a, vs, rfl, ⟨o, I.keepP _ _ h1, h2, m, h3⟩, h4⟩
  · obtain ⟨a, rfl, ha⟩ := hv.tells
    obtain ⟨vs, h1, h2⟩ := I.objs i a _ ha hi
    exact ⟨a, vs, rfl, h1.isList, h2⟩
theorem Inv.tupOf (I : Inv g R P δ env ρ σ h) {xs : List V} {v : Value} (hv : g.Sees P δ v (.tup xs)) : ∃ a vs, v = .ref a ∧ IsTup h a (vs : List Value).toArray ∧ g.SeesL P δ vs xs := by
  obtain ⟨a, o, vs, m, rfl, h1, h2, h3, h4⟩ := hv.tells
  exact ⟨a, vs, rfl, ⟨o, I.keepP _ _ h1, h2, m, h3⟩, h4⟩
theorem Inv.dictOf (I : Inv g R P δ env ρ σ h) {x : V} {xs : List (Str × V)} {v : Value} (hx : DV σ x xs) (hv : g.Sees P δ v x) : ∃ a kvs, v = .ref a ∧ h.DictOf (strKind g.prog g.w) a kvs ∧ g.SeesD P δ kvs xs := by
  rcases hx with rfl | ⟨i, rfl, hi⟩
  · obtain ⟨a, o, kvs, rfl, h1, ⟨es, ep, h2⟩, h3⟩ := hv.tells
    exact ⟨a, kvs, rfl, ⟨o, es, ep, I.keepP _ _ h1, h2⟩, h3⟩
  · obtain ⟨a, rfl, ha⟩ := hv.tells
    obtain ⟨kvs, h1, h2⟩ := I.objs i a _ ha hi
    exact ⟨a, kvs, rfl, h1, h2⟩

/-- what has items -/
noncomputable def Seq (σ : List MO) (x : V) : Prop := (∃ k l, x = .tx k l) ∨ (∃ xs, LV σ x xs) ∨ (∃ xs, x = .tup xs) ∨ ∃ xs, DV σ x xs
theorem Seq.tx {k : Kd} {l : List UInt8} : Seq σ (.tx k l) := .inl ⟨k, l, rfl⟩
theorem Seq.lst {x : V} {xs : List V} (hx : LV σ x xs) : Seq σ x := .inr (.inl ⟨xs, hx⟩)
theorem Seq.tup {xs : List V} : Seq σ (.tup xs) := .inr (.inr (.inl ⟨xs, rfl⟩))
theorem Seq.dict {x : V} {xs : List (Str × V)} (hx : DV σ x xs) : Seq σ x := .inr (.inr (.inr ⟨xs, hx⟩))
theorem Inv.itemed {s : Shared} (I : Inv g R P δ env ρ σ s.heap) {x : V} {v : Value} (hx : Seq σ x) (hv : g.Sees P δ v x) : ∃ T id, s.TypeIs v T ∧ typeLookup (.type T) "__getitem__" = pure (some (.builtin id)) := by
  rcases hx with ⟨k, l, rfl⟩ | ⟨xs, hx⟩ | ⟨xs, rfl⟩ | ⟨xs, hx⟩
  · cases k with
    | s =>
      obtain ⟨t, rfl⟩ := hv.tells
      exact ⟨"str", _, typeIs_str _ _ _, F.slot_str_getitem.lookup⟩
    | b =>
      obtain ⟨t, rfl⟩ := hv.tells
      exact ⟨"bytes", _, typeIs_bytes _ _ _, FB.slot_bytes_getitem.lookup⟩
  · obtain ⟨a, vs, rfl, hl, _⟩ := I.listOf hx hv
    exact ⟨"list", _, hl.typeIs, slot_list_getitem.lookup⟩
  · obtain ⟨a, vs, rfl, hl, _⟩ := I.tupOf hv
    exact ⟨"tuple", _, hl.typeIs, slot_tuple_getitem.lookup⟩
  · obtain ⟨a, vs, rfl, hl, _⟩ := I.dictOf hx hv
    exact ⟨"dict", _, hl.typeIs, slot_dict_getitem.lookup⟩

theorem subscripted_ops (slice : Expr) (o i : Value) : ∃ ops, subscripted slice false o i = operate ops (getItem o i) := by
  cases slice with
  | Slice l u st p => cases st with
    | none => exact ⟨_, rfl⟩
    | some e => exact ⟨_, rfl⟩
  | _ => exact ⟨_, rfl⟩

theorem ev_sub {value slice : Expr} {pos : Pos} {x i y : V} (h1 : Ev g sc n value ρ σ x σ₁) (h2 : Ev g sc n slice ρ σ₁ i σ₂) (hx : Seq σ₂ x) (ho : Op2 g n σ₂ getItem x i y σ₃) : Ev g sc n (.Subscript value slice pos) ρ σ y σ₃ := by
  refine .mk ?_
  intro env A R P δ s Q O hA I h
  refine Subscript_ (h1.run env A R P δ s _ O hA I fun v P₁ δ₁ hh₁ tk₁ le₁ pr₁ I₁ s₁ => ?_)
  refine h2.run env A R P₁ δ₁ _ _ O hA I₁ fun u P₂ δ₂ hh₂ tk₂ le₂ pr₂ I₂ s₂ => ?_
  obtain ⟨T, id, hT, hl⟩ := I₂.itemed (s := { s with heap := hh₂, toks := tk₂ }) hx (s₁.mono le₂ pr₂)
  obtain ⟨ops, hs⟩ := subscripted_ops slice v u
  refine tail_any hT hl ?_ hs
  exact ho.use (s := { s with heap := hh₂, toks := tk₂ }) hA I₂ (s₁.mono le₂ pr₂) s₂ fun r P₃ δ₃ hh₃ tk₃ le₃ pr₃ I₃ s₃ => h r P₃ δ₃ hh₃ tk₃ (fun b o z => le₃ b o (le₂ b o (le₁ b o z))) ((pr₁.trans pr₂).trans pr₃) I₃ s₃

theorem op_item_list {x : V} {xs : List V} {i : Int} {y : V} (hx : LV σ x xs) (h0 : 0 ≤ i) (hi : i < 9223372036854775808) (hy : xs[i.toNat]? = some y) : Op2 g n σ getItem x (.int i) y σ := .of fun env ρ A R P δ s Q v u hA I hv hu h => by
  obtain ⟨a, vs, rfl, hl, hs⟩ := I.listOf hx hv
  obtain ⟨u, rfl⟩ := hu.tells
  obtain ⟨v, e, hv⟩ := hs.get hy
  exact wpAny_getItem_list hl h0 hi (by simpa using e) (stay s.toks I h hv)
theorem op_item_last {x : V} {xs : List V} {y : V} (hx : LV σ x xs) (hy : xs.getLast? = some y) (hz : xs.length ≤ 16777216) : Op2 g n σ getItem x (.int (-1)) y σ := .of fun env ρ A R P δ s Q v u hA I hv hu h => by
  obtain ⟨a, vs, rfl, hl, hs⟩ := I.listOf hx hv
  obtain ⟨u, rfl⟩ := hu.tells
  rw [List.getLast?_eq_getElem?] at hy
  have hlt : xs.length - 1 < xs.length := (List.getElem?_eq_some_iff.mp hy).1
  obtain ⟨v, e, hv⟩ := hs.get hy
  have hlen := hs.length
  refine wpAny_getItem_list_neg hl (by omega) (by simp; omega) (by omega) ?_ (stay s.toks I h hv)
  have : (-1 + ((vs.toArray).size : Int)).toNat = xs.length - 1 := by simp; omega
  rw [this]
  simpa using e
theorem op_item_tup {xs : List V} {i : Int} {y : V} (h0 : 0 ≤ i) (hi : i < 9223372036854775808) (hy : xs[i.toNat]? = some y) : Op2 g n σ getItem (.tup xs) (.int i) y σ := .of fun env ρ A R P δ s Q v u hA I hv hu h => by
  obtain ⟨a, vs, rfl, hl, hs⟩ := I.tupOf hv
  obtain ⟨u, rfl⟩ := hu.tells
  obtain ⟨v, e, hv⟩ := hs.get hy
  have hlt : i.toNat < vs.length := (List.getElem?_eq_some_iff.mp e).1
  refine PyProof.Rows.getItem_tuple (j := i.toNat) hl (by omega) hi ?_ (by simpa using e) (stay s.toks I h hv)
  obtain ⟨j, rfl⟩ := Int.eq_ofNat_of_zero_le h0
  unfold seqIndex?
  have h1 : ¬ ((j : Int) < 0) := by omega
  have h2 : (j : Int).toNat = j := by omega
  rw [h2] at hlt
  simp [h1, hlt]
theorem op_item_dict {x : V} {xs : List (Str × V)} {k : List UInt8} {y : V} (hx : DV σ x xs) (hy : xs.lookup (S8 k) = some y) : Op2 g n σ getItem x (.tx .s k) y σ := .of fun env ρ A R P δ s Q v u hA I hv hu h => by
  obtain ⟨a, kvs, rfl, hl, hs⟩ := I.dictOf hx hv
  obtain ⟨t, rfl⟩ := hu.tells
  obtain ⟨v, e, hv⟩ := hs.valueAt hy
  exact wpAny_getItem_of (strKind_is _ _ _ _) hl.mapOf e (stay _ I h hv)

theorem tr_list {x : V} {xs : List V} (hx : LV σ x xs) (hz : xs.length ≤ 16777216) : Tr g n σ x (!xs.isEmpty) := .of fun env ρ A R P δ s Q v hA I hv h => by
  obtain ⟨a, vs, rfl, hl, hs⟩ := I.listOf hx hv
  have hlen := hs.length
  refine wpAny_truthy_list hl (by simp; omega) ?_
  have : (!vs.toArray.isEmpty) = !xs.isEmpty := by
    cases vs <;> cases xs <;> simp at hlen ⊢
  rw [this]
  exact h P δ s.heap _ (fun _ _ z => z) (List.prefix_refl _) I
theorem tr_tup {xs : List V} (hz : xs.length ≤ 16777216) : Tr g n σ (.tup xs) (!xs.isEmpty) := .of fun env ρ A R P δ s Q v hA I hv h => by
  obtain ⟨a, vs, rfl, hl, hs⟩ := I.tupOf hv
  have hlen := hs.length
  refine truthy_tuple hl (by simp; omega) ?_
  have : (!vs.toArray.isEmpty) = !xs.isEmpty := by
    cases vs <;> cases xs <;> simp at hlen ⊢
  rw [this]
  exact h P δ s.heap _ (fun _ _ z => z) (List.prefix_refl _) I
theorem op_add_list {x y : V} {xs ys : List V} (hx : LV σ x xs) (hy : LV σ y ys) (hz : xs.length + ys.length ≤ 16777216) : Op2 g n σ (binaryOp .Add) x y (.list (xs ++ ys)) σ := .of fun env ρ A R P δ s Q v u hA I hv hu h => by
  obtain ⟨l, vs, rfl, hl, hs⟩ := I.listOf hx hv
  obtain ⟨b, us, rfl, hb, hs'⟩ := I.listOf hy hu
  have hlen := hs.length
  have hlen' := hs'.length
  obtain ⟨⟨cls, dd, data, sl⟩, ho, hc, n, hd⟩ := id hl
  obtain ⟨⟨cls2, dd2, data2, sl2⟩, ho2, hc2, n2, hd2⟩ := id hb
  simp only at hc hd hc2 hd2
  subst hc hd hc2 hd2
  have e : vs.toArray ++ us.toArray = (vs ++ us).toArray := by simp
  refine concat_meets ⟨_, ho, rfl⟩ ⟨_, ho2, rfl⟩ noFill_list_add seq_list_add PySem.F.slot_list_add PySem.F.entry_list_add (PySem.F.args_list_add_2 _ _) (list_addW l b vs.toArray us.toArray n n2 dd dd2 sl sl2 (by rw [sizeLine_eq]; simp; omega)) ⟨ho, ho2, ?_⟩
  rw [e]
  exact h _ _ δ (s.heap.push _) s.toks pin_le (List.prefix_refl _) (I.pushPin _) (.mkList pin_at rfl rfl ((hs.append hs').mono pin_le (List.prefix_refl _)))
-- a list of one, repeated
theorem foldl_reps (m : Nat) (items : Array Value) : List.foldl (fun x1 x2 => x1 ++ x2) #[] (List.replicate m items) = (List.replicate m items.toList).flatten.toArray := by
  have : ∀ (k : Nat) (acc : Array Value), List.foldl (fun x1 x2 => x1 ++ x2) acc (List.replicate k items) = acc ++ (List.replicate k items.toList).flatten.toArray := by
    intro k
    induction k with
    | zero => intro acc; simp
    | succ k ih =>
      intro acc
      rw [List.replicate_succ, List.foldl_cons, ih, List.replicate_succ, List.flatten_cons]
      apply Array.ext'
      simp
  rw [this]; simp
theorem mul_made {A : Around} {E : Value → Shared → Prop} {s : Shared} {l : Addr} {items : Array Value} {x : Int} {u : Tok} {Q : Value → Shared → Prop} (hl : s.heap.get? l = some { cls := .type "list", dict := none, data := .seq items 0, slots := #[] })
    (hlo : -(2 ^ 63 : Int) ≤ x) (hhi : x < 2 ^ 63) (hsz : items.size * x.toNat ≤ 2 ^ 24)
    (h : Q (.ref s.heap.objs.size) { s with heap := s.heap.push { cls := .type "list", data := .seq (List.foldl (fun x1 x2 => x1 ++ x2) #[] (List.replicate (if items.isEmpty = true then 0 else x.toNat) items)) } }) :
    wpAny (model g.prog g.w) A (binaryOp .Mult (.ref l) (.int x u)) Q E s :=
  wpAny_binaryOp_repeat_ref (T := "list") (U := "int") (by decide) ⟨_, hl, rfl⟩ (fun s' => typeIs_int s' x u) noFill_list_mul F.fills_int_mul F.slot_int_rmul repeat_list F.slot_int_index.lookup
    (call_meets F.slot_int_rmul (typeIs_int s x u) F.entry_int_rmul (F.args_int_rmul_2 _ _) (int___rmul___int_list x u l items 0)
      ⟨hl, rfl, ⟨_, hl, rfl⟩, call_meets F.slot_list_mul ⟨_, hl, rfl⟩ F.entry_list_mul (F.args_list_mul_2 _ _)
        (AutoListH.list___mul___list_int_3 l items 0 x u (by simp [Builtin.List.listFitsIndex]; omega) (by omega) (by simp [Builtin.List.listTooLong, sizeLine]; omega))
        ⟨hl, h⟩⟩)
theorem ev_mulOne {e r : Expr} {lp p : Pos} {x : V} {m : Nat} (he : isStar e = false) (h1 : Ev g sc n e ρ σ x σ₁) (h2 : Ev g sc n r ρ σ₁ (.int (m : Int)) σ₂) (hm : m ≤ 16777216) : Ev g sc n (.BinOp (.List [e] lp) .Mult r p) ρ σ (.list (List.replicate m x)) σ₂ := by
  refine .mk ?_
  intro env A R P δ s Q O hA I h
  refine wpAny_BinOp (wpAny_List_spliced ?_)
  refine (evl_cons h1 evl_nil he).run env A R P δ s _ O hA I fun vs P₁ δ₁ hh₁ tk₁ le₁ pr₁ I₁ s₁ => ?_
  obtain ⟨v, rfl, hv⟩ := s₁.one
  refine ⟨by rw [sizeLine_eq]; simp, ?_⟩
  refine h2.run env A R _ δ₁ { s with heap := hh₁.push _, toks := tk₁ } _ O hA (I₁.pushPin _) fun u P₂ δ₂ hh₂ tk₂ le₂ pr₂ I₂ s₂ => ?_
  obtain ⟨u, rfl⟩ := s₂.tells
  have hl : hh₂.get? hh₁.objs.size = some { cls := .type "list", dict := none, data := .seq [v].toArray 0, slots := #[] } := I₂.keepP _ _ (le₂ _ _ pin_at)
  refine mul_made (s := { s with heap := hh₂, toks := tk₂ }) hl (by omega) (by omega) (by simp; omega) ?_
  have e : List.foldl (fun x1 x2 => x1 ++ x2) #[] (List.replicate (if ([v].toArray).isEmpty = true then 0 else (m : Int).toNat) [v].toArray) = (List.replicate m v).toArray := by
    rw [foldl_reps]
    simp
  have e0 : List.replicate m x = List.replicate m x := rfl
  rw [e]
  refine h _ _ δ₂ (hh₂.push _) tk₂ (fun b o z => pin_le b o (le₂ b o (pin_le b o (le₁ b o z)))) (pr₁.trans pr₂) (I₂.pushPin _) (.mkList pin_at rfl rfl ⟨by simp, fun i v' x' a b => ?_⟩)
  have hv2 := (hv.mono pin_le (List.prefix_refl _)).mono le₂ pr₂
  rw [List.getElem?_replicate] at a b
  split at a
  · rename_i hi
    rw [if_pos hi] at b
    cases a; cases b
    exact hv2.mono pin_le (List.prefix_refl _)
  · cases a
end
end Mine
end
section
open PySem PySem.W PyProof.Rows PySem.Calls PySem.SeqAt
set_option Elab.async false
set_option linter.unusedVariables false
namespace Mine

/-- two trees compared: are they equal? -/
inductive Cm : Nat → V → V → Bool → Prop
  | none (n) : Cm n .none .none true
  | bool (n) (a b : Bool) : Cm n (.bool a) (.bool b) (a == b)
  | int (n) (a b : Int) : Cm n (.int a) (.int b) (a == b)
  | str (n) (a b : List UInt8) : Cm n (.tx .s a) (.tx .s b) (a == b)
  | bytes (n) (a b : List UInt8) : Cm n (.tx .b a) (.tx .b b) (a == b)
  | strNone (n) (a : List UInt8) : Cm n (.tx .s a) .none false
  | noneStr (n) (a : List UInt8) : Cm n .none (.tx .s a) false
  | list (n) (xs ys : List V) (e : Nat → Bool) : xs.length = ys.length → (∀ (j : Nat) x y, xs[j]? = some x → ys[j]? = some y → Cm n x y (e j)) → Cm (n + 1) (.list xs) (.list ys) ((List.range xs.length).all e)
  | lens (n) (xs ys : List V) : xs.length ≠ ys.length → Cm (n + 1) (.list xs) (.list ys) false
  | tup (n) (xs ys : List V) (e : Nat → Bool) : (∀ (j : Nat) x y, xs[j]? = some x → ys[j]? = some y → Cm n x y (e j)) → Cm (n + 1) (.tup xs) (.tup ys) ((List.range (min xs.length ys.length)).all e && xs.length == ys.length)

theorem S8_beq (a b : List UInt8) : (S8 a == S8 b) = (a == b) := by
  rw [Bool.eq_iff_iff, beq_iff_eq, beq_iff_eq]
  refine ⟨fun e => map_toNat_inj ?_, fun e => by rw [e]⟩
  have := congrArg (fun x : Str => x.cps.toList) e
  simpa [S8_list] using this

section
variable {g : Glo} {R : RS} {P : PS} {δ : List Addr} {env : Env} {ρ : Loc} {σ σ₁ σ₂ σ₃ : List MO} {h : Heap} {sc : Scope} {n : Nat}

theorem same_objs (I : Inv g R P δ env ρ σ h) {a : Addr} {o o' : Obj} (h1 : P a o) (h2 : P a o') : o = o' := Option.some.inj ((I.keepP _ _ h1).symm.trans (I.keepP _ _ h2))

/-- one value, seen as two trees, is equal to itself -/
theorem Cm.self (I : Inv g R P δ env ρ σ h) {x y : V} {b : Bool} (c : Cm n x y b) : ∀ {v : Value}, g.Sees P δ v x → g.Sees P δ v y → b = true := by
  have seqs : ∀ {o o' : Obj} {a : Addr} {vs us : List Value} {k k' : Nat} {xs ys : List V}, P a o → P a o' → o.data = .seq vs.toArray k → o'.data = .seq us.toArray k' → g.SeesL P δ vs xs → g.SeesL P δ us ys → vs = us ∧ xs.length = ys.length := by
    intro o o' a vs us k k' xs ys p p' d d' s s'
    have := same_objs I p p'
    subst this
    rw [d] at d'
    injection d' with e1 e2
    have : vs = us := by simpa using e1
    exact ⟨this, by rw [← s.length, ← s'.length, this]⟩
  induction c with
  | none => intros; rfl
  | bool n a b => intro v s1 s2; obtain rfl := s1.tells; have := s2.tells; injection this with e; simp [e]
  | int n a b => intro v s1 s2; obtain ⟨t, rfl⟩ := s1.tells; obtain ⟨u, this⟩ := s2.tells; injection this with e; simp [e]
  | str n a b =>
    intro v s1 s2; obtain ⟨t, rfl⟩ := s1.tells; obtain ⟨u, this⟩ := s2.tells; injection this with e
    have := S8_beq a b; rw [e] at this; rw [← this]; simp
  | bytes n a b =>
    intro v s1 s2; obtain ⟨t, rfl⟩ := s1.tells; obtain ⟨u, this⟩ := s2.tells; injection this with e
    have e : a = b := by simpa using e
    simp [e]
  | strNone n a => intro v s1 s2; obtain ⟨t, rfl⟩ := s1.tells; exact nomatch s2.tells
  | noneStr n a => intro v s1 s2; obtain rfl := s1.tells; obtain ⟨t, e⟩ := s2.tells; cases e
  | list n xs ys e hl _ ih =>
    intro v s1 s2
    obtain ⟨a, o, vs, k, rfl, h1, h2, h3, h4⟩ := s1.tells
    obtain ⟨a', o', us, k', e', h1', h2', h3', h4'⟩ := s2.tells
    cases e'
    obtain ⟨rfl, _⟩ := seqs h1 h1' h3 h3' h4 h4'
    rw [List.all_eq_true]
    intro j hj
    have hj := List.mem_range.mp hj
    have hj' : j < ys.length := hl ▸ hj
    have hjv : j < vs.length := h4.length ▸ hj
    exact ih j _ _ (List.getElem?_eq_getElem hj) (List.getElem?_eq_getElem hj') (h4.2 j _ _ (List.getElem?_eq_getElem hjv) (List.getElem?_eq_getElem hj)) (h4'.2 j _ _ (List.getElem?_eq_getElem hjv) (List.getElem?_eq_getElem hj'))
  | lens n xs ys hl =>
    intro v s1 s2
    obtain ⟨a, o, vs, k, rfl, h1, h2, h3, h4⟩ := s1.tells
    obtain ⟨a', o', us, k', e', h1', h2', h3', h4'⟩ := s2.tells
    cases e'
    exact absurd (seqs h1 h1' h3 h3' h4 h4').2 hl
  | tup n xs ys e _ ih =>
    intro v s1 s2
    obtain ⟨a, o, vs, k, rfl, h1, h2, h3, h4⟩ := s1.tells
    obtain ⟨a', o', us, k', e', h1', h2', h3', h4'⟩ := s2.tells
    cases e'
    obtain ⟨rfl, hl⟩ := seqs h1 h1' h3 h3' h4 h4'
    rw [Bool.and_eq_true]
    refine ⟨?_, by simpa using hl⟩
    rw [List.all_eq_true]
    intro j hj
    have hj : j < xs.length := Nat.lt_of_lt_of_le (List.mem_range.mp hj) (Nat.min_le_left _ _)
    have hj' : j < ys.length := hl ▸ hj
    have hjv : j < vs.length := h4.length ▸ hj
    exact ih j _ _ (List.getElem?_eq_getElem hj) (List.getElem?_eq_getElem hj') (h4.2 j _ _ (List.getElem?_eq_getElem hjv) (List.getElem?_eq_getElem hj)) (h4'.2 j _ _ (List.getElem?_eq_getElem hjv) (List.getElem?_eq_getElem hj'))

noncomputable def isFl : Value → Bool
  | .float _ _ => true
  | _ => false
theorem Sees.noFl {prog : Program} {w : World} {mg : Str → Option Value} {v : Value} {x : V} (h : Sees prog w mg P δ v x) : isFl v = false := by cases h <;> rfl
theorem EqAt.of_rc {A : Around} {s : Shared} {v u : Value} {b : Bool} (hf : isFl v = false) (hs : v = u → b = true) (h : RcAt A s v u b) : EqAt A s v u b := fun prog w E Q hq => by
  unfold eqBool
  refine wpAny_holding ?_
  refine wpAny_ite_split (fun hab => ?_) (fun _ => ?_)
  · have : b = true := hs (eq_of_beq hab)
    subst this
    exact wpAny_bind (wpAny_rule (wpAny_pure hq))
  · cases v with
    | float b t => cases hf
    | _ => exact wpAny_bind (h prog w E _ (wpAny_truthy_bool hq))

theorem AOk.in1' {A : Around} (h : A.units + (n + 1) < cLine) : A.in1.units + n < cLine := by show A.units + 1 + n < cLine; omega

theorem Cm.rc {s : Shared} (I : Inv g R P δ env ρ σ s.heap) {x y : V} {b : Bool} (c : Cm n x y b) : ∀ {A : Around} {v u : Value}, A.units + n < cLine → g.Sees P δ v x → g.Sees P δ u y → RcAt A s v u b := by
  have elems : ∀ {m : Nat} {xs ys : List V} {e : Nat → Bool} {A : Around} {vs us : List Value}, (∀ (j : Nat) x y, xs[j]? = some x → ys[j]? = some y → Cm m x y (e j)) → (∀ (j : Nat) x y, xs[j]? = some x → ys[j]? = some y → ∀ {A : Around} {v u : Value}, A.units + m < cLine → g.Sees P δ v x → g.Sees P δ u y → RcAt A s v u (e j)) →
      A.units + (m + 1) < cLine → g.SeesL P δ vs xs → g.SeesL P δ us ys → ∀ j (h1 : j < vs.toArray.size) (h2 : j < us.toArray.size), EqAt A.in1 s vs.toArray[j] us.toArray[j] (e j) := by
    intro m xs ys e A vs us hc ih hu hs hs' j h1 h2
    have h1' : j < vs.length := by simpa using h1
    have h2' : j < us.length := by simpa using h2
    have hx : j < xs.length := hs.length ▸ h1'
    have hy : j < ys.length := hs'.length ▸ h2'
    have sx := hs.2 j vs[j] xs[j] (List.getElem?_eq_getElem h1') (List.getElem?_eq_getElem hx)
    have sy := hs'.2 j us[j] ys[j] (List.getElem?_eq_getElem h2') (List.getElem?_eq_getElem hy)
    have ex := List.getElem?_eq_getElem hx
    have ey := List.getElem?_eq_getElem hy
    show EqAt A.in1 s vs[j] us[j] (e j)
    exact EqAt.of_rc sx.noFl (fun q => (hc j _ _ ex ey).self I sx (q ▸ sy)) (ih j _ _ ex ey (AOk.in1' hu) sx sy)
  have room : ∀ {A : Around} {m : Nat}, A.units + (m + 1) < cLine → A.units < cLine := fun h => by omega
  induction c with
  | none => intro A v u hu s1 s2; obtain rfl := s1.tells; obtain rfl := s2.tells; exact RcAt.none_none
  | bool n a b => intro A v u hu s1 s2; obtain rfl := s1.tells; obtain rfl := s2.tells; exact RcAt.bool_bool a b
  | int n a b => intro A v u hu s1 s2; obtain ⟨t, rfl⟩ := s1.tells; obtain ⟨t', rfl⟩ := s2.tells; exact RcAt.int_int a t b t'
  | str n a b => intro A v u hu s1 s2; obtain ⟨t, rfl⟩ := s1.tells; obtain ⟨t', rfl⟩ := s2.tells; rw [← S8_beq]; exact RcAt.str_str _ t _ t'
  | bytes n a b => intro A v u hu s1 s2; obtain ⟨t, rfl⟩ := s1.tells; obtain ⟨t', rfl⟩ := s2.tells; exact fun prog w E Q h => eq_bytes (by simpa using h)
  | strNone n a => intro A v u hu s1 s2; obtain ⟨t, rfl⟩ := s1.tells; obtain rfl := s2.tells; exact RcAt.str_none _ t
  | noneStr n a => intro A v u hu s1 s2; obtain rfl := s1.tells; obtain ⟨t, rfl⟩ := s2.tells; exact RcAt.none_str _ t
  | list n xs ys e hl hc ih =>
    intro A v u hu s1 s2
    obtain ⟨a, vs, rfl, h1, h2⟩ := I.listOf (.inl rfl) s1
    obtain ⟨a', us, rfl, h1', h2'⟩ := I.listOf (.inl rfl) s2
    have := RcAt.lists (e := e) h1 h1' (by simp [h2.length, h2'.length, hl]) (room hu) (elems hc ih hu h2 h2')
    simpa [h2.length] using this
  | lens n xs ys hl =>
    intro A v u hu s1 s2
    obtain ⟨a, vs, rfl, h1, h2⟩ := I.listOf (.inl rfl) s1
    obtain ⟨a', us, rfl, h1', h2'⟩ := I.listOf (.inl rfl) s2
    exact RcAt.lists_lengths h1 h1' (by simp [h2.length, h2'.length, hl]) (room hu)
  | tup n xs ys e hc ih =>
    intro A v u hu s1 s2
    obtain ⟨a, vs, rfl, ⟨o, p1, p2, p3⟩, h2⟩ := I.tupOf s1
    obtain ⟨a', us, rfl, ⟨o', p1', p2', p3'⟩, h2'⟩ := I.tupOf s2
    have := RcAt.tuples (e := e) ⟨o, p1, p2, p3⟩ ⟨o', p1', p2', p3'⟩ (room hu) (elems hc ih hu h2 h2')
    simpa [h2.length, h2'.length] using this

theorem Cm.ne {s : Shared} (I : Inv g R P δ env ρ σ s.heap) {x y : V} {b : Bool} (c : Cm n x y b) {A : Around} {v u : Value} (hu : A.units + n < cLine) (s1 : g.Sees P δ v x) (s2 : g.Sees P δ u y) : RcNeAt A s v u (!b) := by
  have elems : ∀ {m : Nat} {xs ys : List V} {e : Nat → Bool} {A : Around} {vs us : List Value}, (∀ (j : Nat) x y, xs[j]? = some x → ys[j]? = some y → Cm m x y (e j)) →
      A.units + (m + 1) < cLine → g.SeesL P δ vs xs → g.SeesL P δ us ys → ∀ j (h1 : j < vs.toArray.size) (h2 : j < us.toArray.size), EqAt A.in1 s vs.toArray[j] us.toArray[j] (e j) := by
    intro m xs ys e A vs us hc hu hs hs' j h1 h2
    have h1' : j < vs.length := by simpa using h1
    have h2' : j < us.length := by simpa using h2
    have hx : j < xs.length := hs.length ▸ h1'
    have hy : j < ys.length := hs'.length ▸ h2'
    have sx := hs.2 j vs[j] xs[j] (List.getElem?_eq_getElem h1') (List.getElem?_eq_getElem hx)
    have sy := hs'.2 j us[j] ys[j] (List.getElem?_eq_getElem h2') (List.getElem?_eq_getElem hy)
    have ex := List.getElem?_eq_getElem hx
    have ey := List.getElem?_eq_getElem hy
    show EqAt A.in1 s vs[j] us[j] (e j)
    exact EqAt.of_rc sx.noFl (fun q => (hc j _ _ ex ey).self I sx (q ▸ sy)) ((hc j _ _ ex ey).rc I (AOk.in1' hu) sx sy)
  have room : ∀ {A : Around} {m : Nat}, A.units + (m + 1) < cLine → A.units < cLine := fun h => by omega
  cases c with
  | none => obtain rfl := s1.tells; obtain rfl := s2.tells; exact RcNeAt.none_none
  | bool _ a b => obtain rfl := s1.tells; obtain rfl := s2.tells; exact RcNeAt.bool_bool a b
  | int _ a b => obtain ⟨t, rfl⟩ := s1.tells; obtain ⟨t', rfl⟩ := s2.tells; exact RcNeAt.int_int a t b t'
  | str _ a b => obtain ⟨t, rfl⟩ := s1.tells; obtain ⟨t', rfl⟩ := s2.tells; rw [← S8_beq]; exact RcNeAt.str_str _ t _ t'
  | bytes _ a b => obtain ⟨t, rfl⟩ := s1.tells; obtain ⟨t', rfl⟩ := s2.tells; exact fun prog w E Q h => ne_bytes (by simpa [bne] using h)
  | strNone _ a => obtain ⟨t, rfl⟩ := s1.tells; obtain rfl := s2.tells; exact RcNeAt.str_none _ t
  | noneStr _ a => obtain rfl := s1.tells; obtain ⟨t, rfl⟩ := s2.tells; exact RcNeAt.none_str _ t
  | list n xs ys e hl hc =>
    obtain ⟨a, vs, rfl, h1, h2⟩ := I.listOf (.inl rfl) s1
    obtain ⟨a', us, rfl, h1', h2'⟩ := I.listOf (.inl rfl) s2
    have := RcNeAt.lists (e := e) h1 h1' (by simp [h2.length, h2'.length, hl]) (room hu) (elems hc hu h2 h2')
    simpa [h2.length] using this
  | lens n xs ys hl =>
    obtain ⟨a, vs, rfl, h1, h2⟩ := I.listOf (.inl rfl) s1
    obtain ⟨a', us, rfl, h1', h2'⟩ := I.listOf (.inl rfl) s2
    exact RcNeAt.lists_lengths h1 h1' (by simp [h2.length, h2'.length, hl]) (room hu)
  | tup n xs ys e hc =>
    obtain ⟨a, vs, rfl, ⟨o, p1, p2, p3⟩, h2⟩ := I.tupOf s1
    obtain ⟨a', us, rfl, ⟨o', p1', p2', p3'⟩, h2'⟩ := I.tupOf s2
    have := RcNeAt.tuples (e := e) ⟨o, p1, p2, p3⟩ ⟨o', p1', p2', p3'⟩ (room hu) (elems hc hu h2 h2')
    simpa [h2.length, h2'.length] using this

theorem AOk.cm {A : Around} {m : Nat} (h : AOk A n R env) (hm : m ≤ 64) : A.units + m < cLine := by have := h.units; show A.units + m < 9900; omega
theorem op_eq {m : Nat} {x y : V} {b : Bool} (c : Cm m x y b) (hm : m ≤ 64) : Op2 g n σ (compareOp .Eq) x y (.bool b) σ := .of fun env ρ A R P δ s Q v u hA I hv hu h =>
  c.rc I (hA.cm hm) hv hu g.prog g.w NoE Q (stay s.toks I h (.bool _))
theorem op_ne {m : Nat} {x y : V} {b : Bool} (c : Cm m x y b) (hm : m ≤ 64) : Op2 g n σ (compareOp .NotEq) x y (.bool (!b)) σ := .of fun env ρ A R P δ s Q v u hA I hv hu h =>
  c.ne I (hA.cm hm) hv hu g.prog g.w NoE Q (stay s.toks I h (.bool _))

theorem Cm.up {n m : Nat} {x y : V} {b : Bool} (h : n ≤ m) (c : Cm n x y b) : Cm m x y b := by
  induction c generalizing m with
  | none => exact .none _
  | bool => exact .bool _ _ _
  | int => exact .int _ _ _
  | str => exact .str _ _ _
  | bytes => exact .bytes _ _ _
  | strNone => exact .strNone _ _
  | noneStr => exact .noneStr _ _
  | list n xs ys e hl _ ih => obtain ⟨k, rfl⟩ := Nat.exists_eq_add_of_le h; rw [Nat.add_right_comm]; exact .list _ _ _ _ hl fun j x y a b => ih j x y a b (by omega)
  | lens n xs ys hl => obtain ⟨k, rfl⟩ := Nat.exists_eq_add_of_le h; rw [Nat.add_right_comm]; exact .lens _ _ _ hl
  | tup n xs ys e _ ih => obtain ⟨k, rfl⟩ := Nat.exists_eq_add_of_le h; rw [Nat.add_right_comm]; exact .tup _ _ _ _ fun j x y a b => ih j x y a b (by omega)

theorem cm_tx (k : Kd) (a b : List UInt8) : Cm 0 (.tx k a) (.tx k b) (a == b) := by cases k; exact .str _ _ _; exact .bytes _ _ _
/-- lists of things that are told apart -/
theorem cm_list {α : Type} [DecidableEq α] {m : Nat} (f : α → V) (hf : ∀ a b, Cm m (f a) (f b) (decide (a = b))) (as bs : List α) : Cm (m + 1) (.list (as.map f)) (.list (bs.map f)) (decide (as = bs)) := by
  by_cases hl : as.length = bs.length
  · have c := Cm.list m (as.map f) (bs.map f) (fun j => decide (as[j]? = bs[j]?)) (by simpa using hl) (fun j x y a b => by
      rw [List.getElem?_map] at a b
      obtain ⟨a', ha, rfl⟩ := Option.map_eq_some_iff.mp a
      obtain ⟨b', hb, rfl⟩ := Option.map_eq_some_iff.mp b
      rw [ha, hb]
      have := hf a' b'
      simpa using this)
    have e : ((List.range (as.map f).length).all fun j => decide (as[j]? = bs[j]?)) = decide (as = bs) := by
      rw [Bool.eq_iff_iff, List.all_eq_true, decide_eq_true_iff]
      constructor
      · intro h
        apply List.ext_getElem?
        intro j
        by_cases hj : j < as.length
        · simpa using h j (by simpa using hj)
        · rw [List.getElem?_eq_none (by omega), List.getElem?_eq_none (by omega)]
      · rintro rfl j _; simp
    rw [e] at c
    exact c
  · have e : decide (as = bs) = false := decide_eq_false (fun h => hl (by rw [h]))
    rw [e]
    exact .lens _ _ _ (by simpa using hl)
theorem cm_pair {m : Nat} {x₁ x₂ y₁ y₂ : V} {a b : Bool} (h1 : Cm m x₁ y₁ a) (h2 : Cm m x₂ y₂ b) : Cm (m + 1) (.tup [x₁, x₂]) (.tup [y₁, y₂]) (a && b) := by
  have c := Cm.tup m [x₁, x₂] [y₁, y₂] (fun j => if j = 0 then a else b) (fun j x y hx hy => by
    match j, hx, hy with
    | 0, hx, hy => cases hx; cases hy; exact h1
    | 1, hx, hy => cases hx; cases hy; exact h2
    | j + 2, hx, hy => simp at hx)
  have e : ((List.range (min [x₁, x₂].length [y₁, y₂].length)).all (fun j => if j = 0 then a else b) && [x₁, x₂].length == [y₁, y₂].length) = (a && b) := by
    show ((List.range 2).all _ && _) = _
    simp [List.range_succ]
  rw [e] at c
  exact c
end
end Mine
end
section
open PySem PySem.W PyProof.Rows PySem.Calls PySem.SeqAt
set_option Elab.async false
set_option linter.unusedVariables false
set_option maxRecDepth 100000
namespace Mine

section
variable {prog : Program} {w : World} {A : Around} {E : Value → Shared → Prop} {s : Shared}

theorem sub_ss : isSubtype (.type "str") (.type "str") = pure true := sub_str_str
theorem sub_bs : isSubtype (.type "bytes") (.type "str") = pure false := by rw [isSubtype_type]; kernel_rfl
theorem sub_bb : isSubtype (.type "bytes") (.type "bytes") = pure true := by rw [isSubtype_type]; kernel_rfl
theorem sub_sb : isSubtype (.type "str") (.type "bytes") = pure false := by rw [isSubtype_type]; kernel_rfl
theorem entry_issubclass : entryFor table "issubclass" = some Builtin.«issubclass» := entryFor_of_tree (by kernel_rfl)
theorem entry_issubclass_nested : entryFor table "issubclass.nested" = some Builtin.«issubclass.nested» := entryFor_of_tree (by kernel_rfl)
theorem args_issubclass (a b : Value) : argsOk "issubclass" ⟨[a, b], []⟩ := by unfold argsOk; kernel_rfl
theorem kind_issubclass : builtinKind "issubclass" = none := by decide +kernel
theorem plain_issubclass : plainId "issubclass" = true := by decide +kernel

theorem nested_of {T U : String} {b : Bool} {k : Int} {Q : Fin → Shared → Prop} (hty : typeOf (.type U) = pure (.type "type")) (hsub : isSubtype (.type T) (.type U) = pure b) (h : Q (.done (.ret (.bool b))) s) :
    wpAny (model prog w) A (Builtin.«issubclass.nested» ⟨[.type T, .type U, rawInt k], []⟩) Q E s := by
  unfold Builtin.«issubclass.nested»
  refine wpAny_bind (m := typeOf (.type U)) (wpAny_of_eq hty ?_)
  show wpAny _ _ (if (Value.type "type" == Value.type "type") = true then _ else _) _ _ s
  rw [if_pos (by decide)]
  refine wpAny_bind (wpAny_bind (m := isType (.type T)) (wpAny_pure (a := true) ?_))
  refine wpAny_bind (m := isType (.type U)) (wpAny_pure (a := true) ?_)
  rw [if_pos (by decide)]
  exact wpAny_of_eq (Q := fun a s' => wpAny (model prog w) A (ret (Value.bool a)) Q E s') hsub (wpAny_pure h)
theorem call_nested {T U : String} {b : Bool} {k : Int} {Q : Value → Shared → Prop} (hty : typeOf (.type U) = pure (.type "type")) (hsub : isSubtype (.type T) (.type U) = pure b) (h : Q (.bool b) s) :
    wpAny (model prog w) A (call (.builtin "issubclass.nested") [.type T, .type U, rawInt k]) Q E s := by
  refine wpAny_call (codeAny_call_builtin (by decide +kernel) entry_issubclass_nested ?_)
  simp only [checkBuiltinCall, show builtinKind "issubclass.nested" = none by decide +kernel]
  have hsig : Manifest.signature? "issubclass.nested" = none := by kernel_rfl
  rw [hsig]
  exact wpAny_pure (nested_of hty hsub h)
theorem nested_tup {T : String} {b : Bool} {a : Addr} {Q : Fin → Shared → Prop} (ha : IsTup s.heap a #[.type "str", .type "bytes"]) (hsub : isSubtype (.type T) (.type "str") = pure b) (hsub' : b = false → isSubtype (.type T) (.type "bytes") = pure true) (h : Q (.done (.ret (.bool true))) s) :
    wpAny (model prog w) A (Builtin.«issubclass.nested» ⟨[.type T, .ref a, rawInt 0], []⟩) Q E s := by
  have hT := ha.typeIs
  unfold Builtin.«issubclass.nested»
  refine wpAny_bind (m := typeOf (.ref a)) (wpAny_typeOf hT ?_)
  show wpAny _ _ (if (Value.type "tuple" == Value.type "type") = true then _ else _) _ _ s
  rw [if_neg (by decide)]
  refine wpAny_bind (m := Builtin.Builtins.unionMembers (.ref a)) ?_
  unfold Builtin.Builtins.unionMembers
  refine wpAny_bind (m := typeOf (.ref a)) (wpAny_typeOf hT ?_)
  show wpAny _ _ (if (Value.type "tuple" == Value.type "types.UnionType") = true then _ else _) _ _ s
  rw [if_neg (by decide)]
  refine wpAny_pure ?_
  refine wpAny_bind (m := isInstance (.ref a) (.type "tuple")) (wpAny_isInstance (b := true) hT (by rw [isSubtype_type]; kernel_rfl) ?_)
  obtain ⟨o, ho, hc, n, hd⟩ := ha
  simp only [if_true]
  refine wpAny_bind (m := seqItems? (.ref a)) (wpAny_seqItems ho hd ?_)
  simp only [Option.getD_some, ← Array.forIn_toList, List.forIn_cons, List.forIn_nil]
  refine wpAny_bind (wpAny_bind (wpAny_bind (call_nested meta_str hsub (wpAny_bind (wpAny_truthy_bool ?_)))))
  cases b with
  | true => exact wpAny_pure (wpAny_pure (wpAny_pure h))
  | false =>
    refine wpAny_pure (wpAny_bind (wpAny_bind (call_nested meta_bytes (hsub' rfl) (wpAny_bind (wpAny_truthy_bool ?_)))))
    exact wpAny_pure (wpAny_pure (wpAny_pure h))
theorem call_issubclass {T : String} {b : Bool} {a : Addr} {Q : Value → Shared → Prop} (ha : IsTup s.heap a #[.type "str", .type "bytes"]) (hsub : isSubtype (.type T) (.type "str") = pure b) (hsub' : b = false → isSubtype (.type T) (.type "bytes") = pure true) (h : Q (.bool true) s) :
    wpAny (model prog w) A (call (.builtin "issubclass") [.type T, .ref a]) Q E s := by
  refine call_function_any kind_issubclass plain_issubclass entry_issubclass (args_issubclass _ _) ?_
  unfold Builtin.«issubclass»
  refine wpAny_bind (wpAny_of_eq (a := [Value.type T, Value.ref a]) rfl ?_)
  refine wpAny_pure (a := Fin.again (.builtin "issubclass.nested" ⟨[.type T, .ref a, rawInt 0], []⟩)) ⟨plainId_quiet (by decide +kernel) _, codeAny_builtin entry_issubclass_nested ?_⟩
  rw [Around.under_plainId (id := "issubclass.nested") (by decide +kernel) _]
  exact nested_tup ha hsub hsub' h
end
/-- what a text's kind is called -/
noncomputable def Kd.name : Kd → String
  | .s => "str"
  | .b => "bytes"

section
variable {g : Glo} {R : RS} {P : PS} {δ : List Addr} {env : Env} {ρ : Loc} {σ σ₁ σ₂ σ₃ : List MO} {h : Heap} {sc : Scope} {n : Nat}
theorem Op.one {α : Type} {t : List Value → Sem α} {S : PS → List Addr → α → Prop} {x : V} {σ' : List MO}
    (k : ∀ (env : Env) (ρ : Loc) (A : Around) (R : RS) (P : PS) (δ : List Addr) (s : Shared) (Q : α → Shared → Prop) (v : Value), AOk A n R env → Inv g R P δ env ρ σ s.heap → g.Sees P δ v x →
      (∀ v P' δ' h' tk', (∀ b o, P b o → P' b o) → δ <+: δ' → Inv g R P' δ' env ρ σ' h' → S P' δ' v → Q v { s with heap := h', toks := tk' }) → wpAny (model g.prog g.w) A (t [v]) Q NoE s) : Op g n σ [x] t S σ' := by
  intro env ρ A R P δ s Q vs hA I hv h
  obtain ⟨v, rfl, a⟩ := hv.one
  exact k env ρ A R P δ s Q v hA I a h
theorem Op.two {α : Type} {t : List Value → Sem α} {S : PS → List Addr → α → Prop} {x y : V} {σ' : List MO}
    (k : ∀ (env : Env) (ρ : Loc) (A : Around) (R : RS) (P : PS) (δ : List Addr) (s : Shared) (Q : α → Shared → Prop) (v u : Value), AOk A n R env → Inv g R P δ env ρ σ s.heap → g.Sees P δ v x → g.Sees P δ u y →
      (∀ v P' δ' h' tk', (∀ b o, P b o → P' b o) → δ <+: δ' → Inv g R P' δ' env ρ σ' h' → S P' δ' v → Q v { s with heap := h', toks := tk' }) → wpAny (model g.prog g.w) A (t [v, u]) Q NoE s) : Op g n σ [x, y] t S σ' := by
  intro env ρ A R P δ s Q vs hA I hv h
  obtain ⟨v, u, rfl, a, b⟩ := hv.two
  exact k env ρ A R P δ s Q v u hA I a b h
-- numbers
theorem op_add_int {a b : Int} : Op2 g n σ (binaryOp .Add) (.int a) (.int b) (.int (a + b)) σ := .of fun env ρ A R P δ s Q v u hA I hv hu h => by
  obtain ⟨t, rfl⟩ := hv.tells
  obtain ⟨u, rfl⟩ := hu.tells
  exact PyProof.Rows.add_int (stay _ I h (.int _ _))
theorem op_iadd_int {a b : Int} : Op2 g n σ (inplaceOp .Add) (.int a) (.int b) (.int (a + b)) σ := .of fun env ρ A R P δ s Q v u hA I hv hu h => by
  obtain ⟨t, rfl⟩ := hv.tells
  obtain ⟨u, rfl⟩ := hu.tells
  exact PyProof.Rows.iadd_int (stay _ I h (.int _ _))
theorem op_sub_int {a b : Int} : Op2 g n σ (binaryOp .Sub) (.int a) (.int b) (.int (a - b)) σ := .of fun env ρ A R P δ s Q v u hA I hv hu h => by
  obtain ⟨t, rfl⟩ := hv.tells
  obtain ⟨u, rfl⟩ := hu.tells
  exact PyProof.Rows.sub_int (stay _ I h (.int _ _))
theorem op_mod_int {a b : Int} (hb : 0 < b) : Op2 g n σ (binaryOp .Mod) (.int a) (.int b) (.int (a % b)) σ := .of fun env ρ A R P δ s Q v u hA I hv hu h => by
  obtain ⟨t, rfl⟩ := hv.tells
  obtain ⟨u, rfl⟩ := hu.tells
  refine mod_int' (by omega) ?_
  rw [Int.fmod_eq_emod_of_nonneg _ (by omega)]
  exact stay _ I h (.int _ _)
theorem op_div_int {a b : Int} (hb : 0 < b) (hz : b < 1073741824) : Op2 g n σ (binaryOp .FloorDiv) (.int a) (.int b) (.int (a / b)) σ := .of fun env ρ A R P δ s Q v u hA I hv hu h => by
  obtain ⟨t, rfl⟩ := hv.tells
  obtain ⟨u, rfl⟩ := hu.tells
  refine floordiv_int (by omega) ?_ (.inl (PyProof.noPylong_small (by omega)))
  rw [Int.fdiv_eq_ediv_of_nonneg _ (by omega)]
  exact stay _ I h (.int _ _)
theorem op_lt_int {a b : Int} : Op2 g n σ (compareOp .Lt) (.int a) (.int b) (.bool (decide (a < b))) σ := .of fun env ρ A R P δ s Q v u hA I hv hu h => by
  obtain ⟨t, rfl⟩ := hv.tells
  obtain ⟨u, rfl⟩ := hu.tells
  exact PyProof.Rows.lt_int (stay s.toks I h (.bool _))
theorem op_gt_int {a b : Int} : Op2 g n σ (compareOp .Gt) (.int a) (.int b) (.bool (decide (b < a))) σ := .of fun env ρ A R P δ s Q v u hA I hv hu h => by
  obtain ⟨t, rfl⟩ := hv.tells
  obtain ⟨u, rfl⟩ := hu.tells
  exact PyProof.Rows.gt_int (stay s.toks I h (.bool _))
theorem op_eq_int {a b : Int} : Op2 g n σ (compareOp .Eq) (.int a) (.int b) (.bool (a == b)) σ := op_eq (m := 0) (.int _ _ _) (by decide)
theorem op_ne_bool {a b : Bool} : Op2 g n σ (compareOp .NotEq) (.bool a) (.bool b) (.bool (!(a == b))) σ := op_ne (m := 0) (.bool _ _ _) (by decide)
theorem op_isnot_bool {a b : Bool} : Op2 g n σ (compareOp .IsNot) (.bool a) (.bool b) (.bool (a != b)) σ := .of fun env ρ A R P δ s Q v u hA I hv hu h => by
  obtain rfl := hv.tells
  obtain rfl := hu.tells
  exact isnot_bool (stay s.toks I h (.bool _))
theorem tr_bool {b : Bool} : Tr g n σ (.bool b) b := .of fun env ρ A R P δ s Q v hA I hv h => by
  obtain rfl := hv.tells
  exact wpAny_truthy_bool (h P δ s.heap s.toks (fun _ _ z => z) (List.prefix_refl _) I)
theorem tr_none : Tr g n σ .none false := .of fun env ρ A R P δ s Q v hA I hv h => by
  obtain rfl := hv.tells
  exact PyProof.Rows.truthy_none (h P δ s.heap s.toks (fun _ _ z => z) (List.prefix_refl _) I)
theorem ev_neg1 {p p' : Pos} {k : Nat} : Ev g sc n (.UnaryOp .USub (.Constant (.int 1) k p) p') ρ σ (.int (-1)) σ := by
  refine ev_un ev_int (.of fun env ρ A R P δ s Q v hA I hv h => ?_)
  obtain ⟨t, rfl⟩ := hv.tells
  exact PyProof.Rows.neg_int (stay _ I h (.int _ _))
theorem op_abs {a : Int} : Op g n σ [.int a] (fun vs => call (.builtin "abs") vs) (fun P δ v => g.Sees P δ v (.int a.natAbs)) σ := .one fun env ρ A R P δ s Q v hA I hv h => by
  obtain ⟨t, rfl⟩ := hv.tells
  refine call_abs_int fun u tk => ?_
  have e : (if a < 0 then -a else a) = (a.natAbs : Int) := by split <;> omega
  rw [e]
  exact stay tk I h (.int _ _)
theorem op_chr {a : Int} (h0 : 0 ≤ a) (h1 : a < 256) : Op g n σ [.int a] (fun vs => call (.builtin "chr") vs) (fun P δ v => g.Sees P δ v (.tx .s [UInt8.ofNat a.toNat])) σ := .one fun env ρ A R P δ s Q v hA I hv h => by
  obtain ⟨t, rfl⟩ := hv.tells
  refine PySem.P.chr_of_int (by rw [decide_eq_false (by omega), decide_eq_false (by omega)]; rfl) ?_
  have e : (⟨#[a.toNat]⟩ : Str) = S8 [UInt8.ofNat a.toNat] := by
    unfold S8
    have : (UInt8.ofNat a.toNat).toNat = a.toNat := by rw [UInt8.toNat_ofNat']; omega
    simp [this]
  rw [e]
  exact stay _ I h (.str _ _)
theorem op_iadd_tx_s {a b : List UInt8} (hz : a.length + b.length ≤ 16777216) : Op2 g n σ (inplaceOp .Add) (.tx .s a) (.tx .s b) (.tx .s (a ++ b)) σ := .of fun env ρ A R P δ s Q v u hA I hv hu h => by
  obtain ⟨t, rfl⟩ := hv.tells
  obtain ⟨u, rfl⟩ := hu.tells
  refine SB.iadd (fun t' k => ?_) (by rw [S8_len, S8_len, sizeLine_eq]; exact hz)
  rw [S8_append]
  exact stay k I h (.str _ _)

-- slices
noncomputable def EvP (g : Glo) (sc : Scope) (n : Nat) (e : Option Expr) (ρ : Loc) (σ : List MO) (i : Option Int) : Prop := Run g sc n (evalPart e) ρ σ (fun P δ v => IsPart v i) σ
theorem evp_none : EvP g sc n none ρ σ none := .mk fun env A R P δ s Q O hA I h => wpAny_evalPart_none (stay s.toks I h .none)
theorem evp_some {e : Expr} {i : Int} (he : Ev g sc n e ρ σ (.int i) σ) : EvP g sc n (some e) ρ σ (some i) := .mk fun env A R P δ s Q O hA I h =>
  wpAny_evalPart_some (he.run env A R P δ s Q O hA I fun v P₁ δ₁ hh₁ tk₁ le₁ pr₁ I₁ s₁ => by
    obtain ⟨t, rfl⟩ := s₁.tells
    exact h _ P₁ δ₁ hh₁ tk₁ le₁ pr₁ I₁ (.int _ _))
theorem SeesL.psl {vs : List Value} {xs : List V} (h : g.SeesL P δ vs xs) (lo hi : Option Int) : g.SeesL P δ (Mine.psl vs lo hi) (Mine.psl xs lo hi) := by
  unfold Mine.psl
  rw [h.length]
  exact (SeesL.drop _ h).take _
theorem part_of {v : Value} {i : Option Int} (h : IsPart v i) : ∃ l : Option (Int × Tok), v = partValue l ∧ l.map (·.1) = i := by
  cases h with
  | none => exact ⟨none, rfl, rfl⟩
  | int i t => exact ⟨some (i, t), rfl, rfl⟩
/-- the slices of a kind of text -/
noncomputable def SlcT (g : Glo) (k : Kd) : Prop := ∀ (P : PS) (δ : List Addr) (A : Around) (s : Shared) (Q : Value → Shared → Prop) (v vl vu : Value) (a : Addr) (l : List UInt8) (lo hi : Option Int), g.Sees P δ v (.tx k l) → IsPart vl lo → IsPart vu hi → s.heap.IsSliceOf a vl vu .none → l.length ≤ 16777216 →
  (∀ r k', g.Sees P δ r (.tx k (psl l lo hi)) → Q r { s with toks := k' }) → wpAny (model g.prog g.w) A (getItem v (.ref a)) Q NoE s
theorem slct_s : SlcT g .s := fun P δ A s Q v vl vu a l lo hi hv pl pu hsl hz h => by
  obtain ⟨t, rfl⟩ := hv.tells
  obtain ⟨l', rfl, rfl⟩ := part_of pl
  obtain ⟨u', rfl, rfl⟩ := part_of pu
  refine wpAny_getItem_str_slice (l := l') (u := u') (st := none) (by obtain ⟨o, a, b, c⟩ := hsl; exact ⟨o, a, b, c⟩) rfl (post_val_or_str ⟨?_, fun t' k => ?_⟩)
  · exact Nat.le_trans (Txt.slice_le _ _ _) (by rw [S8_len, sizeLine_eq]; exact hz)
  · show Q (.str (Txt.slice (S8 l) _ _) t') _
    rw [txt_slice, S8_list, psl_map]
    exact h _ k (.str _ _)
theorem slc_core {value : Expr} {lower upper : Option Expr} {p pos : Pos} {x y : V} {lo hi : Option Int} (h1 : Ev g sc n value ρ σ x σ₁) (h2 : EvP g sc n lower ρ σ₁ lo) (h3 : EvP g sc n upper ρ σ₁ hi) (hx : Seq σ₁ x)
    (K : ∀ (A : Around) (R : RS) (P : PS) (δ : List Addr) (env : Env) (s : Shared) (Q : Value → Shared → Prop) (v vl vu : Value) (a : Addr), Inv g R P δ env ρ σ₁ s.heap → g.Sees P δ v x → IsPart vl lo → IsPart vu hi → s.heap.IsSliceOf a vl vu .none →
      (∀ r P' δ' h' tk', (∀ b o, P b o → P' b o) → δ <+: δ' → Inv g R P' δ' env ρ σ₁ h' → g.Sees P' δ' r y → Q r { s with heap := h', toks := tk' }) → wpAny (model g.prog g.w) A (getItem v (.ref a)) Q NoE s) :
    Ev g sc n (.Subscript value (.Slice lower upper none p) pos) ρ σ y σ₁ := by
  refine .mk ?_
  intro env A R P δ s Q O hA I h
  refine Subscript_ (h1.run env A R P δ s _ O hA I fun v P₁ δ₁ hh₁ tk₁ le₁ pr₁ I₁ s₁ => ?_)
  refine wpAny_Slice (h2.run env A R P₁ δ₁ _ _ O hA I₁ fun vl P₂ δ₂ hh₂ tk₂ le₂ pr₂ I₂ pl => ?_)
  refine h3.run env A R P₂ δ₂ _ _ O hA I₂ fun vu P₃ δ₃ hh₃ tk₃ le₃ pr₃ I₃ pu => ?_
  refine wpAny_evalPart_none ?_
  have hv := (s₁.mono le₂ pr₂).mono le₃ pr₃
  have I₄ := I₃.grows fun b o e => Heap.get?_push_of_some { cls := .type "slice", data := .fields #[vl, vu, .none] } e
  obtain ⟨T, id, hT, hl⟩ := I₄.itemed (s := { s with heap := hh₃.push _, toks := tk₃ }) hx hv
  obtain ⟨ops, hs⟩ := subscripted_ops (.Slice lower upper none p) v (.ref hh₃.objs.size)
  refine tail_any hT hl ?_ hs
  exact K A R P₃ δ₃ env { s with heap := hh₃.push _, toks := tk₃ } Q v vl vu _ I₄ hv pl pu (Heap.IsSliceOf.new hh₃ vl vu .none) fun r P' δ' h' tk' le' pr' I' s' => h r P' δ' h' tk' (fun b o z => le' b o (le₃ b o (le₂ b o (le₁ b o z)))) (((pr₁.trans pr₂).trans pr₃).trans pr') I' s'
theorem ev_slc {value : Expr} {lower upper : Option Expr} {p pos : Pos} {k : Kd} {l : List UInt8} {lo hi : Option Int} (T : SlcT g k) (h1 : Ev g sc n value ρ σ (.tx k l) σ₁) (h2 : EvP g sc n lower ρ σ₁ lo) (h3 : EvP g sc n upper ρ σ₁ hi) (hz : l.length ≤ 16777216) :
    Ev g sc n (.Subscript value (.Slice lower upper none p) pos) ρ σ (.tx k (psl l lo hi)) σ₁ :=
  slc_core h1 h2 h3 .tx fun A R P δ env s Q v vl vu a I hv pl pu hsl h => T P δ A s Q v vl vu a l lo hi hv pl pu hsl hz fun r k' hr => h r P δ s.heap k' (fun _ _ z => z) (List.prefix_refl _) I hr
theorem ev_slcL {value : Expr} {lower upper : Option Expr} {p pos : Pos} {l : List V} {lo hi : Option Int} (h1 : Ev g sc n value ρ σ (.list l) σ₁) (h2 : EvP g sc n lower ρ σ₁ lo) (h3 : EvP g sc n upper ρ σ₁ hi) (hz : l.length ≤ 16777216) :
    Ev g sc n (.Subscript value (.Slice lower upper none p) pos) ρ σ (.list (psl l lo hi)) σ₁ :=
  slc_core h1 h2 h3 (.lst (.inl rfl)) fun A R P δ env s Q v vl vu a I hv pl pu hsl h => by
    obtain ⟨a, vs, rfl, hl, hs'⟩ := I.listOf (.inl rfl) hv
    have hlen := hs'.length
    refine wpAny_getItem_list_slice hl hsl pl pu .none (by simp) ?_ (by rw [sizeLine_eq]; simp; omega)
    have e : slicePick vs.toArray lo hi none = (psl vs lo hi).toArray := by
      rw [slicePick_plain]; unfold psl; simp
    rw [e]
    exact h _ _ δ _ s.toks pin_le (List.prefix_refl _) (I.pushPin _) (.mkList pin_at rfl rfl ((SeesL.psl hs' lo hi).mono pin_le (List.prefix_refl _)))

-- kinds
theorem op_type {k : Kd} {l : List UInt8} : Op g n σ [.tx k l] (fun vs => call (.type "type") vs) (fun P δ v => g.Sees P δ v (.ty k.name)) σ := .one fun env ρ A R P δ s Q v hA I hv h => by
  cases k with
  | s => obtain ⟨t, rfl⟩ := hv.tells; exact call_type_of (typeIs_str _ _ _) (by decide +kernel) (stay s.toks I h (.ty _))
  | b => obtain ⟨t, rfl⟩ := hv.tells; exact call_type_of (typeIs_bytes _ _ _) (by decide +kernel) (stay s.toks I h (.ty _))
theorem op_isbytes {k : Kd} {l : List UInt8} : Op g n σ [.tx k l, .ty "bytes"] (fun vs => call (.builtin "isinstance") vs) (fun P δ v => g.Sees P δ v (.bool (k == .b))) σ := .two fun env ρ A R P δ s Q v u hA I hv hu h => by
  obtain rfl := hu.tells
  cases k with
  | s => obtain ⟨t, rfl⟩ := hv.tells; exact call_isinstance (isinstance_false_str (by decide) meta_bytes sub_sb) (show Q (.bool false) _ from stay (s.toks + 1) I h (.bool false))
  | b => obtain ⟨t, rfl⟩ := hv.tells; exact call_isinstance_yes (typeIs_bytes _ _ _) meta_bytes sub_bb (stay s.toks I h (.bool _))
theorem op_issub {k : Kd} : Op g n σ [.ty k.name, .tup [.ty "str", .ty "bytes"]] (fun vs => call (.builtin "issubclass") vs) (fun P δ v => g.Sees P δ v (.bool true)) σ := .two fun env ρ A R P δ s Q v u hA I hv hu h => by
  obtain rfl := hv.tells
  obtain ⟨a, vs, rfl, ha, hs⟩ := I.tupOf hu
  obtain ⟨v, u, rfl, h1, h2⟩ := hs.two
  obtain rfl := h1.tells
  obtain rfl := h2.tells
  cases k with
  | s => exact call_issubclass ha sub_ss (fun e => nomatch e) (stay s.toks I h (.bool _))
  | b => exact call_issubclass ha sub_bs (fun _ => sub_bb) (stay s.toks I h (.bool _))
end
end Mine
end
section
open PySem PySem.W PyProof.Rows PySem.Calls PySem.SeqAt PySem.Builtin PySem.Builtin.Str
set_option Elab.async false
set_option linter.unusedVariables false
set_option maxRecDepth 100000
namespace Mine

/-- where what stands behind the last c begins -/
noncomputable def aft (c : UInt8) (l : List UInt8) : Nat := l.length - (l.reverse.takeWhile (· != c)).length
/-- cut at each c -/
noncomputable def spl (c : UInt8) : List UInt8 → List (List UInt8)
  | [] => [[]]
  | x :: r => if x = c then [] :: spl c r else match spl c r with
    | [] => [[x]]
    | p :: q => (x :: p) :: q
/-- glued -/
noncomputable def jn (sep : List UInt8) : List (List UInt8) → List UInt8
  | [] => []
  | [p] => p
  | p :: q :: r => p ++ sep ++ jn sep (q :: r)
/-- no c at its end -/
noncomputable def rst (c : UInt8) (l : List UInt8) : List UInt8 := (l.reverse.dropWhile (· == c)).reverse

theorem spl_ne (c : UInt8) : ∀ l, spl c l ≠ []
  | [] => by simp [spl]
  | x :: r => by
    unfold spl
    split
    · simp
    · split <;> simp
/-- the cut is the one way to take the text apart -/
theorem spl_free_only (c : UInt8) : ∀ (p : List UInt8), c ∉ p → spl c p = [p]
  | [], _ => rfl
  | x :: r, h => by
    have h1 : ¬ x = c := fun e => h (by rw [e]; exact List.mem_cons_self)
    unfold spl
    rw [if_neg h1, spl_free_only c r (fun z => h (List.mem_cons_of_mem _ z))]
theorem spl_append (c : UInt8) : ∀ (p l : List UInt8), c ∉ p → spl c (p ++ c :: l) = p :: spl c l
  | [], l, _ => by rw [List.nil_append, spl, if_pos rfl]
  | x :: r, l, h => by
    have h1 : ¬ x = c := fun e => h (by rw [e]; exact List.mem_cons_self)
    rw [List.cons_append, spl, if_neg h1, spl_append c r l (fun z => h (List.mem_cons_of_mem _ z))]
theorem spl_jn (c : UInt8) : ∀ (ps : List (List UInt8)), ps ≠ [] → (∀ p ∈ ps, c ∉ p) → spl c (jn [c] ps) = ps
  | [], h, _ => absurd rfl h
  | [p], _, h => spl_free_only c p (h p List.mem_cons_self)
  | p :: q :: r, _, h => by
    show spl c (p ++ [c] ++ jn [c] (q :: r)) = _
    rw [List.append_assoc]
    show spl c (p ++ c :: jn [c] (q :: r)) = _
    rw [spl_append c p _ (h p List.mem_cons_self), spl_jn c (q :: r) (by simp) (fun p hp => h p (List.mem_cons_of_mem _ hp))]

-- texts of the model and lists of octets
theorem subAt_one (l : List UInt8) (c : UInt8) (i : Nat) : subAt (S8 l) (S8 [c]) i = (l[i]? == some c) := by
  unfold subAt
  rw [Bool.eq_iff_iff, beq_iff_eq, beq_iff_eq]
  have e : ((S8 l).cps.extract i (i + (S8 [c]).length)).toList = ((l.map UInt8.toNat).drop i).take 1 := by
    rw [Array.toList_extract, S8_list, S8_len]
    simp [List.extract_eq_take_drop]
  rw [← Array.toList_inj, e, S8_list]
  constructor
  · intro h
    rw [← List.map_drop, ← List.map_take] at h
    have := map_toNat_inj h
    cases hd : l.drop i with
    | nil => rw [hd] at this; simp at this
    | cons x r =>
      rw [hd] at this
      have hx : x = c := by simpa using this
      have := congrArg (·[0]?) hd
      simp only [List.getElem?_drop] at this
      simpa [hx] using this
  · intro h
    have hi := (List.getElem?_eq_some_iff.mp h).1
    have hx := (List.getElem?_eq_some_iff.mp h).2
    rw [← List.map_drop, ← List.map_take, List.drop_eq_getElem_cons hi, hx]
    rfl
theorem at_one (l : List UInt8) (c : UInt8) (i : Nat) : StrLaws.At (S8 l) (S8 [c]) (S8 l).length i ↔ l[i]? = some c := by
  unfold StrLaws.At
  rw [subAt_one, S8_len, S8_len, beq_iff_eq]
  refine ⟨fun h => h.2, fun h => ⟨?_, h⟩⟩
  have := (List.getElem?_eq_some_iff.mp h).1
  show i + 1 ≤ _
  omega
theorem last_split (c : UInt8) : ∀ l : List UInt8, c ∈ l → ∃ a b, l = a ++ c :: b ∧ c ∉ b
  | x :: r, h => by
    by_cases hr : c ∈ r
    · obtain ⟨a, b, e, hb⟩ := last_split c r hr
      exact ⟨x :: a, b, by rw [e]; rfl, hb⟩
    · rcases List.mem_cons.mp h with rfl | h
      · exact ⟨[], r, rfl, hr⟩
      · exact absurd h hr
theorem takeWhile_free (c : UInt8) (b r : List UInt8) (h : c ∉ b) : (b ++ c :: r).takeWhile (· != c) = b := by
  rw [List.takeWhile_append_of_pos (by intro x hx; simp; rintro rfl; exact h hx)]
  simp
theorem aft_at (c : UInt8) (a b : List UInt8) (hb : c ∉ b) : aft c (a ++ c :: b) = a.length + 1 := by
  unfold aft
  have e : (a ++ c :: b).reverse = b.reverse ++ c :: a.reverse := by simp
  rw [e, takeWhile_free c _ _ (by simpa using hb)]
  simp; omega
theorem aft_none (c : UInt8) (l : List UInt8) (h : c ∉ l) : aft c l = 0 := by
  unfold aft
  have : ∀ r : List UInt8, c ∉ r → r.takeWhile (· != c) = r := by
    intro r hr
    have := List.takeWhile_append_of_pos (p := (· != c)) (l₁ := r) (l₂ := []) (by intro x hx; simp; rintro rfl; exact hr hx)
    simpa using this
  rw [this _ (by simpa using h)]; simp
theorem aft_spec (c : UInt8) (l : List UInt8) : (c ∉ l ∧ aft c l = 0) ∨ ∃ a b, l = a ++ c :: b ∧ c ∉ b ∧ aft c l = a.length + 1 := by
  by_cases h : c ∈ l
  · obtain ⟨a, b, rfl, hb⟩ := last_split c l h
    exact .inr ⟨a, b, rfl, hb, aft_at c a b hb⟩
  · exact .inl ⟨h, aft_none c l h⟩
theorem txt_rfind (l : List UInt8) (c : UInt8) : Txt.rfind (S8 l) (S8 [c]) = (aft c l : Int) - 1 := by
  rcases rfind_whole (S8 l) (S8 [c]) with ⟨h, hn⟩ | ⟨i, h, hi, hn⟩
  · rw [h]
    rcases aft_spec c l with ⟨_, e⟩ | ⟨a, b, e, _, _⟩
    · rw [e]; rfl
    · exact absurd ((at_one l c a.length).mpr (by rw [e]; simp)) (hn _)
  · rw [h]
    have hi := (at_one l c i).mp hi
    rcases aft_spec c l with ⟨e, _⟩ | ⟨a, b, e, hb, e'⟩
    · exact absurd (List.mem_of_getElem? hi) e
    · rw [e']
      have : i = a.length := by
        rcases Nat.lt_trichotomy i a.length with hlt | h | hgt
        · exact absurd ((at_one l c a.length).mpr (by rw [e]; simp)) (hn _ hlt)
        · exact h
        · rw [e, List.getElem?_append_right (by omega)] at hi
          obtain ⟨k, hk⟩ : ∃ k, i - a.length = k + 1 := ⟨i - a.length - 1, by omega⟩
          rw [hk, List.getElem?_cons_succ] at hi
          exact absurd (List.mem_of_getElem? hi) hb
      omega
theorem txt_starts (l : List UInt8) (c : UInt8) : Txt.startswith (S8 l) (S8 [c]) = (l.head? == some c) := by
  unfold Txt.startswith
  rw [subAt_one, S8_len, S8_len]
  cases l with
  | nil => rfl
  | cons x r => simp
theorem txt_ends (l : List UInt8) (c : UInt8) : Txt.endswith (S8 l) (S8 [c]) = (l.getLast? == some c) := by
  unfold Txt.endswith
  rw [subAt_one, S8_len, S8_len, List.getLast?_eq_getElem?]
  cases l with
  | nil => rfl
  | cons x r => simp
theorem txt_rstrip (l : List UInt8) (c : UInt8) : Txt.rstripChars (S8 l) (S8 [c]) = S8 (rst c l) := by
  unfold Txt.rstripChars
  rw [PyProof.Rows.stripBy_eq]
  have hg : ∀ x : UInt8, (S8 [c]).cps.contains x.toNat = (x == c) := by
    intro x
    show (#[c.toNat] : Array Nat).contains x.toNat = _
    rw [Bool.eq_iff_iff]
    simp [UInt8.toNat_inj]
  have e : ((S8 l).cps.toList.drop (stripLo (S8 [c]).cps.contains false (S8 l))).reverse.takeWhile (S8 [c]).cps.contains = (l.reverse.takeWhile (· == c)).map UInt8.toNat := by
    show ((S8 l).cps.toList.drop 0).reverse.takeWhile _ = _
    rw [List.drop_zero, S8_list, ← List.map_reverse, List.takeWhile_map]
    congr 2
    funext x
    exact hg x
  apply Str.ext'
  apply Array.toList_inj.mp
  rw [StrLaws.strSub_toList]
  show ((S8 l).cps.toList.drop 0).take _ = _
  rw [List.drop_zero]
  unfold stripHi
  rw [if_pos rfl, e, S8_list, S8_list, ← List.map_take]
  congr 1
  unfold rst
  rw [S8_len, List.length_map]
  show l.take (l.length - _ - 0) = _
  rw [Nat.sub_zero]
  have h1 := List.takeWhile_append_dropWhile (p := (· == c)) (l := l.reverse)
  have h2 : l = (l.reverse.dropWhile (· == c)).reverse ++ (l.reverse.takeWhile (· == c)).reverse := by
    rw [← List.reverse_append, h1, List.reverse_reverse]
  have h3 : l.length = (l.reverse.dropWhile (· == c)).length + (l.reverse.takeWhile (· == c)).length := by
    have := congrArg List.length h2
    simpa using this
  have h4 : (l.reverse.dropWhile (· == c)).reverse = (((l.reverse.dropWhile (· == c)).reverse ++ (l.reverse.takeWhile (· == c)).reverse)).take (l.length - (l.reverse.takeWhile (· == c)).length) := by
    rw [List.take_left']
    simp; omega
  rw [← h2] at h4
  exact h4.symm
theorem txt_join (sep : List UInt8) : ∀ (ps : List (List UInt8)), Str.join (S8 sep) (ps.map S8) = S8 (jn sep ps)
  | [] => rfl
  | [p] => rfl
  | p :: q :: r => by
    have ih := txt_join sep (q :: r)
    show S8 p ++ S8 sep ++ Str.join (S8 sep) ((q :: r).map S8) = _
    rw [ih, S8_append, S8_append]
    rfl
end Mine
end
section
open PySem PySem.W PyProof.Rows PySem.Calls PySem.SeqAt PySem.Builtin PySem.Builtin.Str
set_option Elab.async false
set_option linter.unusedVariables false
set_option maxRecDepth 100000
namespace Mine

/-- a method, called -/
noncomputable def MOp (g : Glo) (n : Nat) (σ : List MO) (name : Str) (x : V) (xs : List V) (y : V) (σ' : List MO) : Prop :=
  ∃ (T id : String), PlainAttrs T ∧ Slot T name id ∧ typeOf (.builtin id) = pure (.type "method_descriptor") ∧
    (∀ (R : RS) (P : PS) (δ : List Addr) (env : Env) (ρ : Loc) (s : Shared) (v : Value), Inv g R P δ env ρ σ s.heap → g.Sees P δ v x → s.TypeIs v T ∧ ∀ a, v = .ref a → ∃ ob, s.heap.get? a = some ob ∧ ob.dict = none) ∧
    Op g n σ (x :: xs) (fun vs => call (.builtin id) vs) (fun P δ v => g.Sees P δ v y) σ'

section
variable {g : Glo} {R : RS} {P : PS} {δ : List Addr} {env : Env} {ρ : Loc} {σ σ' σ₁ σ₂ σ₃ : List MO} {h : Heap} {sc : Scope} {n : Nat}

theorem ev_meth {o : Expr} {name : Str} {apos pos : Pos} {args : List Expr} {x y : V} {xs : List V} (h1 : Ev g sc n o ρ σ x σ) (h2 : EvL g sc n pos args ρ σ xs σ) (hm : MOp g n σ name x xs y σ')
    (hbase : ∀ env, attributeBase o name env (eval o env) = eval o env := by intro _; rfl) (hp : noStar args = true := by rfl) (hlen : decide (args.length < 29) = true := by rfl) (hline : (apos.endLine == pos.line) = true := by rfl) :
    Ev g sc n (.Call (.Attribute o name apos) args [] pos) ρ σ y σ' := by
  refine .mk ?_
  intro env A R P δ s Q O hA I h
  obtain ⟨T, bid, pa, slot, ty, hT, hop⟩ := hm
  have hfew : ((backTo pos (starEach args env)).all (fun x => !x.1) && (backToKw pos (keywordEach [] env)).all (fun x => x.1.isSome)
      && decide (args.length + ([] : List Keyword).length + (if ([] : List Keyword).isEmpty then 0 else 1) < 30)) = true := by
    have e1 : (backTo pos (starEach args env)).all (fun x => !x.1) = true := by
      have := noStar_any (env := env) (pos := pos) hp
      rw [List.any_eq_false] at this
      rw [List.all_eq_true]
      intro z hz
      simpa using this z hz
    have e2 : decide (args.length + ([] : List Keyword).length + (if ([] : List Keyword).isEmpty then 0 else 1) < 30) = true := by
      have := of_decide_eq_true hlen
      apply decide_eq_true
      simp; omega
    rw [e1, e2]; rfl
  refine wpAny_Call_method_lateS (hbase env) hfew hline ?_
  refine h1.run env A R P δ s _ O hA I fun v P₁ δ₁ hh₁ tk₁ le₁ pr₁ I₁ s₁ => ?_
  obtain ⟨t1, t2⟩ := hT R P₁ δ₁ env ρ { s with heap := hh₁, toks := tk₁ } v I₁ s₁
  refine ⟨T, bid, pa, slot, ty, t1, t2, ?_⟩
  refine Calls.callWith_builtin (noStar_any hp) (evalArgs_first (noStar_first hp) ?_)
  refine h2.run env A R P₁ δ₁ _ _ O hA I₁ fun vs P₂ δ₂ hh₂ tk₂ le₂ pr₂ I₂ s₂ => ?_
  exact hop env ρ A R P₂ δ₂ { s with heap := hh₂, toks := tk₂ } Q (v :: vs) hA I₂ (.cons (s₁.mono le₂ pr₂) s₂) fun r P₃ δ₃ hh₃ tk₃ le₃ pr₃ I₃ s₃ => h r P₃ δ₃ hh₃ tk₃ (fun b o z => le₃ b o (le₂ b o (le₁ b o z))) ((pr₁.trans pr₂).trans pr₃) I₃ s₃

/-- the methods of a kind of text that the code calls, at one octet -/
structure TxOps (g : Glo) (k : Kd) : Prop where
  slc : SlcT g k
  add : ∀ n σ a b, a.length + b.length ≤ 16777216 → Op2 g n σ (binaryOp .Add) (.tx k a) (.tx k b) (.tx k (a ++ b)) σ
  mul : ∀ n σ a (m : Nat), a ≠ [] → a.length ≤ 16 → m ≤ 1048576 → Op2 g n σ (binaryOp .Mult) (.tx k a) (.int (m : Int)) (.tx k (rep m a)) σ
  starts : ∀ n σ l c, MOp g n σ "startswith" (.tx k l) [.tx k [c]] (.bool (l.head? == some c)) σ
  ends : ∀ n σ l c, MOp g n σ "endswith" (.tx k l) [.tx k [c]] (.bool (l.getLast? == some c)) σ
  rfind : ∀ n σ l c, MOp g n σ "rfind" (.tx k l) [.tx k [c]] (.int ((aft c l : Int) - 1)) σ
  rstrip : ∀ n σ l c, l.length ≤ 16777216 → MOp g n σ "rstrip" (.tx k l) [.tx k [c]] (.tx k (rst c l)) σ
  split : ∀ n σ l c, l.length ≤ 16000000 → MOp g n σ "split" (.tx k l) [.tx k [c]] (.list ((spl c l).map (.tx k))) σ
  join : ∀ n σ l ps x, LV σ x (ps.map (.tx k)) → (ps.map fun p => p.length + l.length).sum ≤ 16777216 → MOp g n σ "join" (.tx k l) [x] (.tx k (jn l ps)) σ
  iadd : ∀ n σ a b, a.length + b.length ≤ 16777216 → Op2 g n σ (inplaceOp .Add) (.tx k a) (.tx k b) (.tx k (a ++ b)) σ

theorem recv_str {l : List UInt8} {s : Shared} {v : Value} (hv : g.Sees P δ v (.tx .s l)) : s.TypeIs v "str" ∧ ∀ a, v = .ref a → ∃ ob, s.heap.get? a = some ob ∧ ob.dict = none := by
  obtain ⟨t, rfl⟩ := hv.tells
  exact ⟨typeIs_str _ _ _, fun a e => nomatch e⟩

theorem str_split_raw {prog : Program} {w : World} {A : Around} {E : Value → Shared → Prop} {s : Shared} {x y : Str} {t u : Tok} {Q : Value → Shared → Prop} (hy : (y.length == 0) = false)
    (hq : ∀ l k, l.map (·.1) = Txt.split x y → Q (.ref s.heap.objs.size) { s with heap := s.heap.push { cls := .type "list", data := .seq (strValues l).toArray }, toks := k })
    (hsz : x.length ≤ sizeLine) (hsz2 : (decide (x.length < y.length) || decide (PySem.Builtin.Str.strKind x < PySem.Builtin.Str.strKind y)) = false → (partsBetween x (occurrences x y 0 x.length (x.length + 1)) y.length).length ≤ sizeLine) :
    wpAny (model prog w) A (call (.builtin "str.split") [.str x t, .str y u]) Q E s := by
  cases h1 : (decide (x.length < y.length) || decide (PySem.Builtin.Str.strKind x < PySem.Builtin.Str.strKind y))
  · cases hf : (occurrences x y 0 x.length (x.length + 1)).isEmpty
    · refine call_meets F.slot_str_split (typeIs_str _ _ _) F.entry_str_split (F.args_str_split_2 _ _) (meets_str_split_sep x y t u h1 hy hf hsz (hsz2 h1)) ?_
      show wants Q E _ { s with toks := _, heap := s.heap.push { cls := .type "list", data := .seq (strsFrom s.toks (partsBetween x (occurrences x y 0 x.length (x.length + 1)) y.length)).toArray } }
      rw [strsFrom_eq]
      exact hq (numbered s.toks _) _ ((numbered_texts _ _).trans ((if_neg (ne_true_of_eq_false h1)).trans (if_neg (ne_true_of_eq_false hf))).symm)
    · exact call_meets F.slot_str_split (typeIs_str _ _ _) F.entry_str_split (F.args_str_split_2 _ _) (meets_str_split_not_found x y t u h1 hy hf)
        (hq [(x, t)] s.toks ((if_neg (ne_true_of_eq_false h1)).trans (if_pos hf)).symm)
  · exact call_meets F.slot_str_split (typeIs_str _ _ _) F.entry_str_split (F.args_str_split_2 _ _) (meets_str_split_cannot_occur x y t u h1)
      (hq [(x, t)] s.toks (if_pos h1).symm)

theorem txt_split (l : List UInt8) (c : UInt8) : Txt.split (S8 l) (S8 [c]) = (spl c l).map S8 := by
  have hj := StrLaws.join_split (S8 l) (S8 [c])
  have hf : ∀ p ∈ Txt.split (S8 l) (S8 [c]), c.toNat ∉ p.cps.toList := StrLaws.split_free (S8 l) c.toNat
  have hne : Txt.split (S8 l) (S8 [c]) ≠ [] := by
    intro h0
    unfold Txt.split at h0
    split at h0
    · cases h0
    · split at h0
      · cases h0
      · rename_i hh
        rw [List.isEmpty_iff] at hh
        have := congrArg List.length h0
        simp [partsBetween] at this
  -- each part is of octets
  have hoct : ∀ ps : List Str, (∀ p ∈ ps, ∃ q, p = S8 q) → ∃ qs : List (List UInt8), ps = qs.map S8 := by
    intro ps
    induction ps with
    | nil => intro _; exact ⟨[], rfl⟩
    | cons p r ih =>
      intro h
      obtain ⟨q, rfl⟩ := h p List.mem_cons_self
      obtain ⟨qs, rfl⟩ := ih fun p hp => h p (List.mem_cons_of_mem _ hp)
      exact ⟨q :: qs, rfl⟩
  have hpart : ∀ (ps : List Str) (l : List UInt8), Str.join (S8 [c]) ps = S8 l → ∀ p ∈ ps, ∃ q, p = S8 q := by
    have hcut : ∀ (a b : Str) (l : List UInt8), a ++ b = S8 l → ∃ p q, a = S8 p ∧ b = S8 q := by
      intro a b l e
      have e' := congrArg (fun x : Str => x.cps.toList) e
      simp only [Str.cps_append, Array.toList_append, S8_list] at e'
      obtain ⟨p, q, _, h2, h3⟩ := List.append_eq_map_iff.mp e'
      refine ⟨p, q, ?_, ?_⟩
      · apply Str.ext'; apply Array.toList_inj.mp; rw [S8_list]; exact h2.symm
      · apply Str.ext'; apply Array.toList_inj.mp; rw [S8_list]; exact h3.symm
    intro ps
    induction ps with
    | nil => intro _ _ p hp; cases hp
    | cons p r ih =>
      intro l e q hq
      cases r with
      | nil =>
        have : q = p := by simpa using hq
        rw [this]; exact ⟨l, e⟩
      | cons p' r' =>
        have e : p ++ S8 [c] ++ Str.join (S8 [c]) (p' :: r') = S8 l := e
        obtain ⟨a, b, ha, hb⟩ := hcut _ _ _ e
        obtain ⟨a', _, ha', _⟩ := hcut _ _ _ ha
        rcases List.mem_cons.mp hq with rfl | hq
        · exact ⟨a', ha'⟩
        · exact ih b hb q hq
  obtain ⟨qs, hqs⟩ := hoct _ (hpart _ l hj)
  rw [hqs] at hj hf hne ⊢
  rw [txt_join] at hj
  have hj' : jn [c] qs = l := by
    have := S8_beq (jn [c] qs) l
    rw [hj] at this
    simpa using this
  have hqne : qs ≠ [] := by rintro rfl; exact hne rfl
  have hfree : ∀ q ∈ qs, c ∉ q := by
    intro q hq hc
    refine hf (S8 q) (List.mem_map_of_mem hq) ?_
    rw [S8_list]
    exact List.mem_map_of_mem hc
  rw [← hj', spl_jn c qs hqne hfree]

theorem sees_strs : ∀ (l : List (Str × Tok)) (ps : List (List UInt8)), l.map (·.1) = ps.map S8 → g.SeesL P δ (strValues l) (ps.map (.tx .s))
  | [], [], _ => .nil
  | p :: r, q :: qs, e => by
    injection e with e1 e2
    obtain ⟨a, t⟩ := p
    simp only at e1
    subst e1
    exact .cons (.str q t) (sees_strs r qs e2)
  | [], _ :: _, e => by cases e
  | _ :: _, [], e => by cases e
theorem strs_seen : ∀ {vs : List Value} (ps : List (List UInt8)), g.SeesL P δ vs (ps.map (.tx .s)) → ∃ l : List (Str × Tok), vs = strValues l ∧ l.map (·.1) = ps.map S8
  | vs, [], h => ⟨[], by rw [SeesL.nil_inv h]; rfl, rfl⟩
  | vs, p :: ps, h => by
    obtain ⟨v, us, rfl, h1, h2⟩ := SeesL.cons_inv h
    obtain ⟨t, rfl⟩ := h1.tells
    obtain ⟨l, rfl, e⟩ := strs_seen ps h2
    exact ⟨(S8 p, t) :: l, rfl, by simp [e]⟩

theorem spl_length (c : UInt8) : ∀ l, (spl c l).length ≤ l.length + 1
  | [] => by simp [spl]
  | x :: r => by
    have ih := spl_length c r
    unfold spl
    split
    · simp; omega
    · split
      · simp
      · rename_i e; rw [e] at ih; simp at ih ⊢; omega

theorem joinok (sep : List UInt8) (ps : List (List UInt8)) (h : (ps.map fun p => p.length + sep.length).sum ≤ 16777216) : JoinOk (S8 sep) (ps.map S8) = true := by
  unfold JoinOk tooLong
  have : ∀ (ps : List (List UInt8)) (k : Nat), (ps.map S8).foldl (fun acc p => acc + p.length + (S8 sep).length) k = k + (ps.map fun p => p.length + sep.length).sum := by
    intro ps
    induction ps with
    | nil => intro k; simp
    | cons p r ih => intro k; simp only [List.map_cons, List.foldl_cons, List.sum_cons]; rw [ih, S8_len, S8_len]; omega
  have e := this ps 0
  simp only [List.size_toArray, List.foldl_toArray'] at *
  rw [e]
  simp only [Bool.not_eq_true', decide_eq_false_iff_not]
  first | omega | (rw [sizeLine_eq]; omega)

theorem txops_s : TxOps g .s where
  slc := slct_s
  add := fun n σ a b hz => op_add_s hz
  mul := fun n σ a m h1 h2 h3 => op_mul_s h1 h2 h3
  starts := fun n σ l c => ⟨"str", "str.startswith", F.plainAttrs_str, F.slot_str_startswith, F.type_str_startswith, fun _ _ _ _ _ _ _ _ hv => recv_str hv, .two fun env ρ A R P δ s Q v u hA I hv hu h => by
    obtain ⟨t, rfl⟩ := hv.tells
    obtain ⟨u, rfl⟩ := hu.tells
    refine SC.startswith ?_
    rw [txt_starts]
    exact stay s.toks I h (.bool _)⟩
  ends := fun n σ l c => ⟨"str", "str.endswith", F.plainAttrs_str, F.slot_str_endswith, F.type_str_endswith, fun _ _ _ _ _ _ _ _ hv => recv_str hv, .two fun env ρ A R P δ s Q v u hA I hv hu h => by
    obtain ⟨t, rfl⟩ := hv.tells
    obtain ⟨u, rfl⟩ := hu.tells
    refine SC.endswith ?_
    rw [txt_ends]
    exact stay s.toks I h (.bool _)⟩
  rfind := fun n σ l c => ⟨"str", "str.rfind", F.plainAttrs_str, F.slot_str_rfind, F.type_str_rfind, fun _ _ _ _ _ _ _ _ hv => recv_str hv, .two fun env ρ A R P δ s Q v u hA I hv hu h => by
    obtain ⟨t, rfl⟩ := hv.tells
    obtain ⟨u, rfl⟩ := hu.tells
    refine SC.rfind ?_
    rw [txt_rfind]
    exact stay _ I h (.int _ _)⟩
  rstrip := fun n σ l c hz => ⟨"str", "str.rstrip", F.plainAttrs_str, F.slot_str_rstrip, F.type_str_rstrip, fun _ _ _ _ _ _ _ _ hv => recv_str hv, .two fun env ρ A R P δ s Q v u hA I hv hu h => by
    obtain ⟨t, rfl⟩ := hv.tells
    obtain ⟨u, rfl⟩ := hu.tells
    refine SC.rstripChars (fun t' k => ?_) (by rw [S8_len, sizeLine_eq]; exact hz)
    rw [txt_rstrip]
    exact stay _ I h (.str _ _)⟩
  split := fun n σ l c hz => ⟨"str", "str.split", F.plainAttrs_str, F.slot_str_split, F.type_str_split, fun _ _ _ _ _ _ _ _ hv => recv_str hv, .two fun env ρ A R P δ s Q v u hA I hv hu h => by
    obtain ⟨t, rfl⟩ := hv.tells
    obtain ⟨u, rfl⟩ := hu.tells
    refine str_split_raw (by rw [S8_len]; rfl) (fun l' k e => ?_) (by rw [S8_len, sizeLine_eq]; omega) ?_
    · rw [txt_split] at e
      exact h _ _ δ (s.heap.push _) k pin_le (List.prefix_refl _) (I.pushPin _) (.mkList pin_at rfl rfl (sees_strs l' _ e))
    · intro hk
      have e := txt_split l c
      unfold Txt.split at e
      have hl := spl_length c l
      by_cases h0 : (occurrences (S8 l) (S8 [c]) 0 (S8 l).length ((S8 l).length + 1)).isEmpty = true
      · rw [List.isEmpty_iff.mp h0, sizeLine_eq]; simp [partsBetween]
      · rw [hk] at e
        simp only [Bool.false_eq_true, if_false, if_neg h0] at e
        have := congrArg List.length e
        rw [List.length_map] at this
        rw [this, sizeLine_eq]; omega⟩
  join := fun n σ l ps x hx hz => ⟨"str", "str.join", F.plainAttrs_str, F.slot_str_join, F.type_str_join, fun _ _ _ _ _ _ _ _ hv => recv_str hv, .two fun env ρ A R P δ s Q v u hA I hv hu h => by
    obtain ⟨t, rfl⟩ := hv.tells
    obtain ⟨a, vs, rfl, hl, hs⟩ := I.listOf hx hu
    obtain ⟨l', rfl, e⟩ := strs_seen ps hs
    refine SC.join hl e (joinok l ps hz) (fun t' k => ?_)
    have : Txt.join (S8 l) (ps.map S8) = S8 (jn l ps) := by
      unfold Txt.join
      rw [StrLaws.glued_eq_join, txt_join]
    rw [this]
    exact stay _ I h (.str _ _)⟩
  iadd := fun n σ a b hz => op_iadd_tx_s hz

theorem erase_last (z : List Value) (y : Value) : (z ++ [y]).toArray.eraseIdxIfInBounds z.length = z.toArray := by
  apply Array.ext'
  have : (z ++ [y]).eraseIdx z.length = z := by
    rw [List.eraseIdx_append_of_length_le (Nat.le_refl _)]; simp
  simp [Array.eraseIdxIfInBounds, this]
-- lists that grow
theorem recv_cell {i : Nat} {xs : List V} {s : Shared} {v : Value} (I : Inv g R P δ env ρ σ s.heap) (hi : σ[i]? = some (.list xs)) (hv : g.Sees P δ v (.cell i)) : s.TypeIs v "list" ∧ ∀ a, v = .ref a → ∃ ob, s.heap.get? a = some ob ∧ ob.dict = none := by
  obtain ⟨a, rfl, ha⟩ := hv.tells
  obtain ⟨vs, ⟨m, h1⟩, h2⟩ := I.objs i a _ ha hi
  exact ⟨⟨_, h1, rfl⟩, fun b e => by cases e; exact ⟨_, h1, rfl⟩⟩
theorem mop_append {i : Nat} {xs : List V} {x : V} (hi : σ[i]? = some (.list xs)) (hz : xs.length ≤ 16777216) : MOp g n σ "append" (.cell i) [x] .none (σ.set i (.list (xs ++ [x]))) :=
  ⟨"list", "list.append", F.plainAttrs_list, F.slot_list_append, F.type_list_append, fun _ _ _ _ _ _ _ I hv => recv_cell I hi hv, .two fun env ρ A R P δ s Q v u hA I hv hu h => by
    obtain ⟨a, rfl, ha⟩ := hv.tells
    obtain ⟨vs, h1, h2⟩ := I.objs i a _ ha hi
    have hlen := h2.length
    refine wpAny_list_append_plain h1 (fun h' hp hs => ?_) (by rw [sizeLine_eq]; simp; omega)
    refine h .none P δ h' s.toks (fun _ _ z => z) (List.prefix_refl _) (I.setCell ha hs ⟨vs ++ [u], by simpa using hp, h2.append (.cons hu .nil)⟩) .none⟩
theorem mop_pop {i : Nat} {xs : List V} {x : V} (hi : σ[i]? = some (.list (xs ++ [x]))) (hz : xs.length < 16777216) : MOp g n σ "pop" (.cell i) [] x (σ.set i (.list xs)) :=
  ⟨"list", "list.pop", F.plainAttrs_list, F.slot_list_pop, F.type_list_pop, fun _ _ _ _ _ _ _ I hv => recv_cell I hi hv, .one fun env ρ A R P δ s Q v hA I hv h => by
    obtain ⟨a, rfl, ha⟩ := hv.tells
    obtain ⟨vs, ⟨m, h1⟩, h2⟩ := I.objs i a _ ha hi
    have hlen : vs.length = xs.length + 1 := by rw [h2.length]; simp
    have hlt : xs.length < vs.length := by omega
    obtain ⟨y, hy, hyx⟩ := h2.get (i := xs.length) (x := x) (by simp)
    have hy' : vs.toArray[vs.toArray.size - 1]? = some y := by
      have : vs.toArray.size - 1 = xs.length := by simp; omega
      rw [this]; simpa using hy
    refine call_meets PySem.F.slot_list_pop ⟨_, h1, rfl⟩ PySem.F.entry_list_pop (PySem.F.args_list_pop_1 _) (PySem.MeetsSeq.list_pop_last a vs.toArray m y hy' (by rw [sizeLine_eq]; simp; omega)) ⟨h1, ?_⟩
    have hsb : Heap.SameBut a s.heap (s.heap.update a (Obj.mapSeq fun xs => xs.eraseIdxIfInBounds (vs.toArray.size - 1))) := Heap.SameBut.update ..
    have hsz : vs.toArray.size = vs.length := by simp
    have he : vs.toArray.eraseIdxIfInBounds (vs.toArray.size - 1) = (vs.take xs.length).toArray := by
      have hv2 : vs = vs.take xs.length ++ [y] := by
        have := List.take_append_getElem hlt
        have h3 : vs[xs.length] = y := by
          have := List.getElem?_eq_getElem hlt
          rw [this] at hy; exact Option.some.inj hy
        rw [h3] at this
        rw [this, List.take_of_length_le (by omega)]
      have e3 : (vs.take xs.length).length = xs.length := by rw [List.length_take]; omega
      have e4 : vs.toArray.size - 1 = (vs.take xs.length).length := by rw [hsz, e3]; omega
      have := erase_last (vs.take xs.length) y
      rw [e4, ← this, ← hv2]
    have hget := PySem.IsL.update h1 (fun xs => xs.eraseIdxIfInBounds (vs.toArray.size - 1))
    rw [he, if_neg (by simp; omega)] at hget
    refine h y P δ _ s.toks (fun _ _ z => z) (List.prefix_refl _) (I.setCell ha hsb ⟨vs.take xs.length, ⟨_, hget⟩, ?_⟩) hyx
    have := h2.take xs.length
    rwa [List.take_left'] at this
    rfl⟩
end
end Mine
end
section
open PySem PySem.W PyProof.Rows PySem.Calls PySem.SeqAt
set_option Elab.async false
set_option linter.unusedVariables false
set_option maxRecDepth 100000
namespace Mine

/-- what an assignment to a target does -/
structure Asg (g : Glo) (sc : Scope) (n : Nat) (t : Expr) (y : V) (ρ ρ' : Loc) : Prop where
  run : ∀ (env : Env) (A : Around) (R : RS) (P : PS) (δ : List Addr) (σ : List MO) (s : Shared) (Q : Unit → Shared → Prop) (v : Value), EnvOk env sc → AOk A n R env → Inv g R P δ env ρ σ s.heap → g.Sees P δ v y →
    (∀ P' δ' h' tk', (∀ b o, P b o → P' b o) → δ <+: δ' → Inv g R P' δ' env ρ' σ h' → Q () { s with heap := h', toks := tk' }) → wpAny (model g.prog g.w) A (assign t env v) Q NoE s
structure AsgL (g : Glo) (sc : Scope) (n : Nat) (ts : List Expr) (ys : List V) (ρ ρ' : Loc) : Prop where
  run : ∀ (env : Env) (A : Around) (R : RS) (P : PS) (δ : List Addr) (σ : List MO) (s : Shared) (Q : Unit → Shared → Prop) (vs : List Value), EnvOk env sc → AOk A n R env → Inv g R P δ env ρ σ s.heap → g.SeesL P δ vs ys →
    (∀ P' δ' h' tk', (∀ b o, P b o → P' b o) → δ <+: δ' → Inv g R P' δ' env ρ' σ h' → Q () { s with heap := h', toks := tk' }) → wpAny (model g.prog g.w) A (assignInOrder ((assignEach ts env).map (·.2)) vs) Q NoE s

section
variable {g : Glo} {R : RS} {P : PS} {δ : List Addr} {env : Env} {ρ ρ' ρ₁ ρ₂ : Loc} {σ σ' σ₁ σ₂ σ₃ : List MO} {h : Heap} {sc : Scope} {n : Nat} {Φ : Out → Prop} {rest : List Stmt}

theorem asg_name {a : Str} {pa : Pos} {y : V} (ha : isVar sc a = true := by decide +kernel) : Asg g sc n (.Name a pa) y ρ ((a, y) :: ρ) := .mk fun env A R P δ σ s Q v O hA I hv h =>
  wpAny_assign_Name (wp_store O I ha hv fun h' tk' I' => h P δ h' tk' (fun _ _ z => z) (List.prefix_refl _) I')
theorem asgl_nil : AsgL g sc n [] [] ρ ρ := .mk fun env A R P δ σ s Q vs O hA I hv h => by
  rw [hv.nil_inv]
  exact wpAny_assignInOrder_none (h P δ s.heap s.toks (fun _ _ z => z) (List.prefix_refl _) I)
theorem assignEach_cons {t : Expr} (ht : isStar t = false) (ts : List Expr) (env : Env) : assignEach (t :: ts) env = (false, assign t env) :: assignEach ts env := by
  cases t <;> first | (cases ht; done) | rfl
theorem asgl_cons {t : Expr} {ts : List Expr} {y : V} {ys : List V} (h1 : Asg g sc n t y ρ ρ₁) (h2 : AsgL g sc n ts ys ρ₁ ρ₂) (ht : isStar t = false := by rfl) : AsgL g sc n (t :: ts) (y :: ys) ρ ρ₂ := .mk fun env A R P δ σ s Q vs O hA I hv h => by
  obtain ⟨v, us, rfl, a, b⟩ := hv.cons_inv
  rw [assignEach_cons ht]
  refine wpAny_assignInOrder_more (h1.run env A R P δ σ s _ v O hA I a fun P₁ δ₁ hh₁ tk₁ le₁ pr₁ I₁ => ?_)
  exact h2.run env A R P₁ δ₁ σ _ Q us O hA I₁ (b.mono le₁ pr₁) fun P₂ δ₂ hh₂ tk₂ le₂ pr₂ I₂ => h P₂ δ₂ hh₂ tk₂ (fun b o z => le₂ b o (le₁ b o z)) (pr₁.trans pr₂) I₂
theorem assignEach_len : ∀ {ts : List Expr} (env : Env), noStar ts = true → (assignEach ts env).length = ts.length ∧ List.findIdx? (fun x => x.fst) (assignEach ts env) = none
  | [], _, _ => ⟨rfl, rfl⟩
  | t :: ts, env, h => by
    unfold noStar at h
    rw [List.all_cons] at h
    obtain ⟨h1, h2⟩ := Bool.and_eq_true_iff.mp h
    obtain ⟨a, b⟩ := assignEach_len env (ts := ts) h2
    rw [assignEach_cons (by simpa using h1)]
    refine ⟨congrArg Nat.succ a, ?_⟩
    rw [List.findIdx?_cons, b]; rfl
theorem Inv.pinned_ext (I : Inv g R P δ env ρ σ h) {h' : Heap} (hs : Heap.ExtBut h.objs.size h h') : Inv g R P δ env ρ σ h' :=
  I.grows fun b o e => hs b o (Nat.ne_of_lt (Heap.lt_size e)) e
theorem asg_tup {ts : List Expr} {k : Nat} {pos : Pos} {ys : List V} (h1 : AsgL g sc n ts ys ρ ρ') (hl : ts.length = ys.length := by rfl) (hn : noStar ts = true := by rfl) : Asg g sc n (.Tuple ts k pos) (.tup ys) ρ ρ' := .mk fun env A R P δ σ s Q v O hA I hv h => by
  obtain ⟨a, vs, rfl, ha, hs⟩ := I.tupOf hv
  obtain ⟨e1, e2⟩ := assignEach_len env hn
  refine wpAny_assign_Tuple hA.handled ha (by rw [e1, hl, ← hs.length]; simp) e2 fun h' hx => ?_
  exact h1.run env A R P δ σ { s with heap := h' } Q vs O hA (I.pinned_ext hx) hs h

-- tuples taken apart
theorem ex1_untup {ts : List Expr} {k : Nat} {pt p : Pos} {e : Expr} {y : V} (h1 : Ev g sc n e ρ σ y σ₁) (h2 : Asg g sc n (.Tuple ts k pt) y ρ ρ') (hs : ∀ env, swapsWithSole [.Tuple ts k pt] e p.line env = pure false := by intro _; rfl)
    (hw : ∀ env, swappedStores [.Tuple ts k pt] e env = pure none := by intro _; rfl) : Ex1 g sc n (.Assign [.Tuple ts k pt] e p) ρ σ ρ' σ₁ := .mk fun env A R P δ s Q O hA I k =>
  Assign_Tuple (h1.run env A R P δ s _ O hA I fun v P₁ δ₁ hh₁ tk₁ le₁ pr₁ I₁ s₁ => h2.run env A R P₁ δ₁ σ₁ _ _ v O hA I₁ s₁ fun P₂ δ₂ hh₂ tk₂ le₂ pr₂ I₂ => k P₂ δ₂ hh₂ tk₂ (fun b o z => le₂ b o (le₁ b o z)) (pr₁.trans pr₂) I₂) (hs env) (hw env)

-- a dict's pair is stored
noncomputable def store (xs : List (Str × V)) (k : Str) (y : V) : List (Str × V) :=
  if xs.any (fun kv => kv.1 = k) then xs.map (fun kv => if kv.1 = k then (kv.1, y) else kv) else xs ++ [(k, y)]
theorem SeesD.any {kvs : List (Str × Value)} {xs : List (Str × V)} (h : g.SeesD P δ kvs xs) (k : Str) : kvs.any (fun kv => kv.1 = k) = xs.any (fun kv => kv.1 = k) := by
  have e : ∀ {α : Type} (l : List (Str × α)), l.any (fun kv => kv.1 = k) = (l.map (·.1)).any (fun x => x = k) := by intro α l; rw [List.any_map]; rfl
  rw [e, e, h.1]
theorem SeesD.store {kvs : List (Str × Value)} {xs : List (Str × V)} {k : Str} {v : Value} {y : V} (h : g.SeesD P δ kvs xs) (hv : g.Sees P δ v y) : g.SeesD P δ (stored kvs k v) (Mine.store xs k y) := by
  unfold stored Mine.store
  rw [h.any k]
  split
  · refine ⟨?_, ?_⟩
    · rw [List.map_map, List.map_map]
      have e : ∀ {α : Type} (u : α) (l : List (Str × α)), l.map ((·.1) ∘ fun kv => if kv.1 = k then (kv.1, u) else kv) = l.map (·.1) := by
        intro α u l
        apply List.map_congr_left
        intro a _
        simp only [Function.comp]
        split <;> rfl
      rw [e, e]; exact h.1
    · intro i u x a b
      rw [List.getElem?_map] at a b
      obtain ⟨u', hu, rfl⟩ := Option.map_eq_some_iff.mp a
      obtain ⟨x', hx, rfl⟩ := Option.map_eq_some_iff.mp b
      have hk : u'.1 = x'.1 := by
        have := congrArg (·[i]?) h.1
        simp only [List.getElem?_map, hu, hx, Option.map_some] at this
        exact Option.some.inj this
      by_cases hq : x'.1 = k
      · rw [if_pos hq, if_pos (hk.trans hq)]; exact hv
      · rw [if_neg hq, if_neg (fun e => hq (hk ▸ e))]; exact h.2 i _ _ hu hx
  · refine ⟨by simp [h.1], ?_⟩
    have hl : kvs.length = xs.length := by have := congrArg List.length h.1; simpa using this
    intro i u x a b
    by_cases hi : i < kvs.length
    · rw [List.getElem?_append_left hi] at a
      rw [List.getElem?_append_left (hl ▸ hi)] at b
      exact h.2 i _ _ a b
    · rw [List.getElem?_append_right (Nat.le_of_not_lt hi)] at a
      rw [List.getElem?_append_right (hl ▸ Nat.le_of_not_lt hi), ← hl] at b
      cases hz : i - kvs.length with
      | zero => rw [hz] at a b; cases a; cases b; exact hv
      | succ m => rw [hz] at a; simp at a
theorem ex1_store {o i value : Expr} {pt p : Pos} {j : Nat} {k : List UInt8} {x : V} {xs : List (Str × V)} (h1 : Ev g sc n value ρ σ x σ₁) (h2 : Ev g sc n o ρ σ₁ (.cell j) σ₁) (h3 : Ev g sc n i ρ σ₁ (.tx .s k) σ₁) (hj : σ₁[j]? = some (.dict xs)) (hz : xs.length ≤ 16777216)
    (hs : ∀ env, swapsWith value (some (.Subscript o i pt)) p.line env = pure false := by intro _; rfl) : Ex1 g sc n (.Assign [.Subscript o i pt] value p) ρ σ ρ (σ₁.set j (.dict (Mine.store xs (S8 k) x))) := .mk fun env A R P δ s Q O hA I kk => by
  refine wpAny_Assign_Subscript (h1.run env A R P δ s _ O hA I fun v P₁ δ₁ hh₁ tk₁ le₁ pr₁ I₁ s₁ => ?_) (hs env)
  refine h2.run env A R P₁ δ₁ _ _ O hA I₁ fun u P₂ δ₂ hh₂ tk₂ le₂ pr₂ I₂ s₂ => ?_
  refine h3.run env A R P₂ δ₂ _ _ O hA I₂ fun r P₃ δ₃ hh₃ tk₃ le₃ pr₃ I₃ s₃ => ?_
  obtain ⟨a, rfl, ha⟩ := (s₂.mono le₃ pr₃).tells
  obtain ⟨t, rfl⟩ := s₃.tells
  obtain ⟨kvs, hd, hsd⟩ := I₃.objs j a _ ha hj
  have hl : kvs.length = xs.length := by have := congrArg List.length hsd.1; simpa using this
  refine wpAny_setItem_pairs (strKind_is _ _ _ _) hd (fun h' hd' hsb => ?_) (by rw [sizeLine_eq]; omega)
  exact kk P₃ δ₃ h' _ (fun b o z => le₃ b o (le₂ b o (le₁ b o z))) ((pr₁.trans pr₂).trans pr₃) (I₃.setCell ha hsb ⟨_, hd', hsd.store ((s₁.mono le₂ pr₂).mono le₃ pr₃)⟩)

-- a dict is shown
noncomputable def EvPs (g : Glo) (sc : Scope) (n : Nat) (pos : Pos) (keys : List (Option Expr)) (values : List Expr) (ρ : Loc) (σ : List MO) (xs : List (Str × V)) : Prop :=
  Run g sc n (fun env => evalPairs (pairTrees keys values env pos)) ρ σ (fun P δ vs => ∃ kvs, Carries (strKind g.prog g.w) vs kvs ∧ g.SeesD P δ kvs xs) σ
theorem evps_nil {pos : Pos} : EvPs g sc n pos [] [] ρ σ [] := .mk fun env A R P δ s Q O hA I h => wpAny_pure (stay s.toks I h ⟨[], trivial, rfl, fun i v x e => by simp at e⟩)
theorem evps_cons {pos : Pos} {k v : Expr} {ks : List (Option Expr)} {vs : List Expr} {l : List UInt8} {y : V} {xs : List (Str × V)} (h1 : Ev g sc n k ρ σ (.tx .s l) σ) (h2 : Ev g sc n v ρ σ y σ) (h3 : EvPs g sc n pos ks vs ρ σ xs) :
    EvPs g sc n pos (some k :: ks) (v :: vs) ρ σ ((S8 l, y) :: xs) := .mk fun env A R P δ s Q O hA I h => by
  show wpAny _ A (evalPairs ((eval k env, do let x ← eval v env; standAt pos; pure x) :: pairTrees ks vs env pos)) Q NoE s
  unfold evalPairs
  refine wpAny_bind (h1.run env A R P δ s _ O hA I fun a P₁ δ₁ hh₁ tk₁ le₁ pr₁ I₁ s₁ => ?_)
  refine wpAny_bind (wpAny_holding (wpAny_bind (h2.run env A R P₁ δ₁ _ _ O hA I₁ fun b P₂ δ₂ hh₂ tk₂ le₂ pr₂ I₂ s₂ => ?_)))
  refine wpAny_bind (wpAny_standAt (wpAny_pure ?_))
  refine wpAny_bind (wpAny_holding (h3.run env A R P₂ δ₂ _ _ O hA I₂ fun r P₃ δ₃ hh₃ tk₃ le₃ pr₃ I₃ s₃ => wpAny_pure ?_))
  obtain ⟨t, rfl⟩ := s₁.tells
  obtain ⟨kvs, hc, hs⟩ := s₃
  refine h _ P₃ δ₃ hh₃ tk₃ (fun b o z => le₃ b o (le₂ b o (le₁ b o z))) ((pr₁.trans pr₂).trans pr₃) I₃ ⟨(S8 l, b) :: kvs, ⟨strKind_is _ _ _ _, rfl, hc⟩, by simp [hs.1], fun i u x a c => ?_⟩
  cases i with
  | zero => cases a; cases c; exact s₂.mono le₃ pr₃
  | succ i => exact hs.2 i u x (by simpa using a) (by simpa using c)
theorem ev_dict {keys : List (Option Expr)} {values : List Expr} {pos : Pos} {xs : List (Str × V)} (h1 : EvPs g sc n pos keys values ρ (σ ++ [.dict []]) xs) (hk : keys.all (·.isSome) = true) (hl : keys.length = values.length) (hne : keys ≠ []) (h15 : keys.length ≤ 15) (hn : (xs.map (·.1)).Nodup) :
    Ev g sc n (.Dict keys values pos) ρ σ (.cell σ.length) (σ ++ [.dict xs]) := .mk fun env A R P δ s Q O hA I h => by
  have hd0 : (s.heap.push { cls := .type "dict", data := .dict #[] }).DictOf (strKind g.prog g.w) s.heap.objs.size [] := Heap.DictOf.new s.heap
  have I₀ := (I.grows (h' := s.heap.push { cls := .type "dict", data := .dict #[] }) fun b o e => Heap.get?_push_of_some _ e).newCell (o := .dict []) (I.free (get_size_none s.heap)) ⟨[], hd0, rfl, fun i v x e => by simp at e⟩
  refine wpAny_Dict_walk (knd := strKind g.prog g.w) hk hl hne h15 ?_
  refine h1.run env A R P (δ ++ [s.heap.objs.size]) { s with heap := s.heap.push { cls := .type "dict", data := .dict #[] } } _ O hA I₀ fun vs P₁ δ₁ hh₁ tk₁ le₁ pr₁ I₁ s₁ => ?_
  obtain ⟨kvs, hc, hs⟩ := s₁
  have ha : δ₁[σ.length]? = some s.heap.objs.size := by
    refine get_prefix pr₁ ?_
    rw [← I.len]; simp
  have hi : (σ ++ [MO.dict []])[σ.length]? = some (MO.dict []) := by simp
  obtain ⟨kvs0, hd, hsd⟩ := I₁.objs σ.length _ _ ha hi
  have : kvs0 = [] := by have := congrArg List.length hsd.1; simpa using this
  subst this
  refine ⟨kvs, hc, hd, fun h' hd' hsb => ?_⟩
  rw [merged_nil_of_nodup _ (by rw [hs.1]; exact hn)] at hd'
  have I₂ := I₁.setCell (o := .dict xs) ha hsb ⟨kvs, hd', hs⟩
  have e : (σ ++ [MO.dict []]).set σ.length (.dict xs) = σ ++ [.dict xs] := by simp
  rw [e] at I₂
  exact h _ P₁ δ₁ h' _ le₁ (List.IsPrefix.trans (List.prefix_append _ _) pr₁) I₂ (.cell _ _ ha)
end
end Mine
end
section
open PySem PySem.W PyProof.Rows PySem.Calls PySem.SeqAt
set_option Elab.async false
set_option linter.unusedVariables false
set_option maxRecDepth 100000
namespace Mine

/-- what a turn hands on: a tree, or a tuple made for the turn alone -/
noncomputable def SeenIn (g : Glo) (P : PS) (δ : List Addr) (h h' : Heap) (v : Value) (y : V) : Prop :=
  g.Sees P δ v y ∨ ∃ (T : Addr) (vals : List Value) (ys : List V), v = .ref T ∧ y = .tup ys ∧ h.get? T = none ∧ h'.IsTuple T vals.toArray ∧ g.SeesL P δ vals ys

/-- an iterator that hands on xs -/
structure Wkr (g : Glo) (A : Around) (P : PS) (δ : List Addr) (I : Addr) (wr : List Addr) (xs : List V) (tgt : Expr) (St : Nat → Heap → Prop) : Prop where
  live : ∀ i h, St i h → ∀ b ∈ wr, ∃ o, h.get? b = some o ∧ ∀ v, o.data ≠ .cell v
  frame : ∀ i h h', St i h → (∀ b ∈ wr, ∀ o, h.get? b = some o → h'.get? b = some o) → (∀ b o, P b o → h.get? b = some o) → (∀ b o, P b o → h'.get? b = some o) → St i h'
  item : ∀ i y (s : Shared) (Q : Value → Shared → Prop), xs[i]? = some y → St i s.heap → (∀ b o, P b o → s.heap.get? b = some o) →
    (∀ v h' tk, St (i + 1) h' → SeenIn g P δ s.heap h' v y → (∀ b o, b ∉ wr → s.heap.get? b = some o → h'.get? b = some o) → Q v { s with heap := h', toks := tk }) →
    wpAny (model g.prog g.w) A (pyNext (.ref I)) (fun r s₁ => match r with | none => False | some v => wpAny (model g.prog g.w) A (letOwnedTupleGo tgt (.ref I) v) (fun _ s' => Q v s') NoE s₁) NoE s
  self : ∀ i (s : Shared) (Q : Value → Shared → Prop), St i s.heap → Q (.ref I) s → wpAny (model g.prog g.w) A (pyIter (.ref I)) Q NoE s
  done : ∀ (s : Shared) (Q : Option Value → Shared → Prop), St xs.length s.heap → (∀ b o, P b o → s.heap.get? b = some o) →
    (∀ h' tk, (∀ b o, b ∉ wr → s.heap.get? b = some o → h'.get? b = some o) → Q none { s with heap := h', toks := tk }) → wpAny (model g.prog g.w) A (pyNext (.ref I)) Q NoE s

/-- what is iterated over -/
structure Src (g : Glo) (sc : Scope) (n : Nat) (iter : Expr) (ρ : Loc) (σ : List MO) (xs : List V) (σ' : List MO) (tgt : Expr) : Prop where
  run : ∀ (env : Env) (A : Around) (R : RS) (P : PS) (δ : List Addr) (s : Shared) (Q : Value → Shared → Prop), EnvOk env sc → AOk A n R env → Inv g R P δ env ρ σ s.heap →
    (∀ I wr St P' δ' h' tk', (∀ b o, P b o → P' b o) → δ <+: δ' → Inv g R P' δ' env ρ σ' h' → (∀ b ∈ wr, Free R P' δ' env b) → (∀ A', A'.handled = none → Wkr g A' P' δ' I wr xs tgt St) → St 0 h' → Q (.ref I) { s with heap := h', toks := tk' }) →
    wpAny (model g.prog g.w) A (eval iter env) (fun x s₁ => wpAny (model g.prog g.w) A (pyIter x) Q NoE s₁) NoE s

noncomputable def isNameE : Expr → Bool
  | .Name _ _ => true
  | _ => false
theorem nameE_tells {e : Expr} (h : isNameE e = true) : ∃ x p, e = .Name x p := by
  cases e <;> first | exact ⟨_, _, rfl⟩ | (cases h; done)
section
variable {g : Glo} {R : RS} {P P' : PS} {δ δ' : List Addr} {env : Env} {ρ ρ' ρ₁ ρ₂ : Loc} {σ σ' σ₁ σ₂ σ₃ : List MO} {h h' : Heap} {sc : Scope} {n : Nat} {Φ : Out → Prop} {rest : List Stmt}

/-- more that stays as it is -/
noncomputable def held (R : RS) (wr : List Addr) (h : Heap) : RS := ⟨fun b o => R.ex b o ∨ (b ∈ wr ∧ h.get? b = some o), R.up⟩
theorem held_any {R : RS} {wr : List Addr} {h : Heap} {b : Addr} {o : Obj} (x : (held R wr h).any b o) : R.any b o ∨ (b ∈ wr ∧ h.get? b = some o) := by
  rcases x with (x | x) | x
  · exact .inl (.inl x)
  · exact .inr x
  · exact .inl (.inr x)
theorem any_held {R : RS} {wr : List Addr} {h : Heap} {b : Addr} {o : Obj} (x : R.any b o) : (held R wr h).any b o := by
  rcases x with x | x
  · exact .inl (.inl x)
  · exact .inr x
theorem mem_held {R : RS} {wr : List Addr} {h : Heap} {b : Addr} {o : Obj} (x : b ∈ wr) (e : h.get? b = some o) : (held R wr h).any b o := .inl (.inr ⟨x, e⟩)
theorem AOk.held {A : Around} {R : RS} {env : Env} {wr : List Addr} {h : Heap} (a : AOk A n R env) : AOk A n (held R wr h) env := ⟨a.handled, a.depth, a.units, a.stack⟩
theorem Inv.hold (I : Inv g R P δ env ρ σ h) {wr : List Addr} (hf : ∀ b ∈ wr, Free R P δ env b) : Inv g (held R wr h) P δ env ρ σ h where
  keepR := fun b o r => r.elim (I.keepR b o) fun z => z.2
  keepU := I.keepU
  part := fun b o o' r u => r.elim (fun r => I.part b o o' r u) fun z => (hf b z.1).r o' (.inr u)
  keepP := I.keepP
  base := fun b o e => .inl (I.base b o e)
  sep := fun b o o' p r => (held_any r).elim (I.sep b o o' p) fun z => absurd p ((hf b z.1).p o)
  loc := by
    obtain ⟨m, hn, hm⟩ := I.loc
    refine ⟨m, hn, fun x y e => ?_⟩
    obtain ⟨v, hs, hl⟩ := hm x y e
    refine ⟨v, hs, ?_⟩
    rcases hl with l | l | ⟨a, c, o, b, r, d⟩
    · exact .inl l
    · exact .inr (.inl l)
    · exact .inr (.inr ⟨a, c, o, b, any_held r, d⟩)
  cel := I.cel
  one := I.one
  nloc := I.nloc
  offP := I.offP
  offR := fun a o hs r => (held_any r).elim (I.offR a o hs) fun z => (hf a z.1).s hs
  offD := I.offD
  dP := I.dP
  dR := fun a o hd r => (held_any r).elim (I.dR a o hd) fun z => (hf a z.1).d hd
  dN := I.dN
  len := I.len
  objs := I.objs
theorem Inv.unhold {wr : List Addr} {h₀ : Heap} (hb : ∀ b o, g.hb.get? b = some o → R.ex b o) (I : Inv g (held R wr h₀) P δ env ρ σ h) (hc : ∀ b ∈ wr, ∀ o, h₀.get? b = some o → ∀ v, o.data ≠ .cell v) : Inv g R P δ env ρ σ h where
  keepR := fun b o r => I.keepR b o (.inl r)
  keepU := I.keepU
  part := fun b o o' r u => I.part b o o' (.inl r) u
  keepP := I.keepP
  base := hb
  sep := fun b o o' p r => I.sep b o o' p (any_held r)
  loc := by
    obtain ⟨m, hn, hm⟩ := I.loc
    refine ⟨m, hn, fun x y e => ?_⟩
    obtain ⟨v, hs, hl⟩ := hm x y e
    refine ⟨v, hs, ?_⟩
    rcases hl with l | l | ⟨a, c, o, b, r, d⟩
    · exact .inl l
    · exact .inr (.inl l)
    · rcases held_any r with r | ⟨r1, r2⟩
      · exact .inr (.inr ⟨a, c, o, b, r, d⟩)
      · exact absurd d (hc c r1 o r2 _)
  cel := I.cel
  one := I.one
  nloc := I.nloc
  offP := I.offP
  offR := fun a o hs r => I.offR a o hs (any_held r)
  offD := I.offD
  dP := I.dP
  dR := fun a o hd r => I.dR a o hd (any_held r)
  dN := I.dN
  len := I.len
  objs := I.objs
/-- what was nobody's before the turn is nobody's after it -/
theorem Inv.still {wr : List Addr} {h₀ : Heap} (hb : ∀ b o, g.hb.get? b = some o → R.ex b o) (J : Inv g (held R wr h₀) P' δ' env ρ σ h) (hf : ∀ b ∈ wr, Free R P δ env b) (hl : ∀ b ∈ wr, ∃ o, h₀.get? b = some o) : ∀ b ∈ wr, Free R P' δ' env b := fun b hm =>
  let ⟨o, ho⟩ := hl b hm
  { r := (hf b hm).r
    p := fun q p => let ⟨z, hz⟩ := J.sep b q o p (mem_held hm ho); (hf b hm).r _ (.inl (hb _ _ hz))
    d := fun hd => J.dR b o hd (mem_held hm ho)
    s := (hf b hm).s }

/-- a turn: the next item, taken in -/
theorem Wkr.turn {A : Around} {P₀ : PS} {δ₀ : List Addr} {It : Addr} {wr : List Addr} {xs : List V} {tgt : Expr} {St : Nat → Heap → Prop} (W : Wkr g A P₀ δ₀ It wr xs tgt St) (O : EnvOk env sc) (hA : AOk A n R env) {i : Nat} {y : V} {s : Shared} {Q : Shared → Prop} (hy : xs[i]? = some y)
    (I : Inv g R P δ env ρ σ s.heap) (le : ∀ b o, P₀ b o → P b o) (pr : δ₀ <+: δ) (hf : ∀ b ∈ wr, Free R P δ env b) (st : St i s.heap) (ha : Asg g sc n tgt y ρ ρ')
    (hQ : ∀ P' δ' h' tk', (∀ b o, P b o → P' b o) → δ <+: δ' → Inv g (held R wr h') P' δ' env ρ' σ h' → (∀ b ∈ wr, Free R P' δ' env b) → St (i + 1) h' → Q { s with heap := h', toks := tk' }) :
    wpAny (model g.prog g.w) A (pyNext (.ref It)) (fun r s₁ => match r with
      | none => False
      | some v => wpAny (model g.prog g.w) A (letOwnedTupleGo tgt (.ref It) v) (fun _ s' => wpAny (model g.prog g.w) A (assign tgt env v) (fun _ s'' => Q s'') NoE s') NoE s₁) NoE s := by
  refine W.item i y s (fun v s' => wpAny (model g.prog g.w) A (assign tgt env v) (fun _ s'' => Q s'') NoE s') hy st (fun b o p => I.keepP b o (le b o p)) fun v h₁ tk₁ st₁ hv hk₁ => ?_
  have I₁ : Inv g R P δ env ρ σ h₁ := I.keeps fun b o k e => hk₁ b o (fun hm => by
    have f := hf b hm
    rcases k with ⟨q, k⟩ | ⟨q, k⟩ | k | k
    · exact f.r _ k
    · exact f.p _ k
    · exact f.d k
    · exact f.s k) e
  have fin : ∀ (P₁ : PS) (hle : ∀ b o, P b o → P₁ b o) (J : Inv g R P₁ δ env ρ σ h₁), (∀ b ∈ wr, Free R P₁ δ env b) → g.Sees P₁ δ v y → wpAny (model g.prog g.w) A (assign tgt env v) (fun _ s'' => Q s'') NoE { s with heap := h₁, toks := tk₁ } := by
    intro P₁ hle J hf₁ hs
    have live := W.live _ _ st₁
    refine ha.run env A (held R wr h₁) P₁ δ σ _ _ v O hA.held (J.hold hf₁) hs fun P₂ δ₂ h₂ tk₂ le₂ pr₂ I₂ => ?_
    have hf₂ := I₂.still J.base hf₁ fun b hm => let ⟨o, ho, _⟩ := live b hm; ⟨o, ho⟩
    have hsame : ∀ b ∈ wr, ∀ o, h₁.get? b = some o → h₂.get? b = some o := fun b hm o e => I₂.keepR b o (.inr ⟨hm, e⟩)
    have st₂ := W.frame _ _ _ st₁ hsame (fun b o p => J.keepP b o (hle b o (le b o p))) fun b o p => I₂.keepP b o (le₂ b o (hle b o (le b o p)))
    have I₃ := (I₂.unhold J.base fun b hm o e => let ⟨o', ho', hc⟩ := live b hm; by rw [ho'] at e; cases e; exact hc).hold hf₂
    exact hQ P₂ δ₂ h₂ tk₂ (fun b o z => le₂ b o (hle b o z)) pr₂ I₃ hf₂ st₂
  rcases hv with hv | ⟨T, vals, ys, rfl, rfl, hT, ⟨o, ho, hc, m, hd⟩, hs⟩
  · exact fin P (fun _ _ z => z) I₁ hf (hv.mono le pr)
  · have hTf := I.free hT
    have hnw : T ∉ wr := fun hm => by
      obtain ⟨o, ho, _⟩ := W.live _ _ st T hm
      rw [hT] at ho; cases ho
    refine fin (pinned P T o) pin_le (I₁.pin hTf ho) (fun b hm => ?_) (.mkTup pin_at hc hd ((hs.mono le pr).mono pin_le (List.prefix_refl _)))
    have f := hf b hm
    exact ⟨f.r, fun q z => z.elim (f.p q) fun e => hnw (e.1 ▸ hm), f.d, f.s⟩

noncomputable def Sub (ρ r : Loc) : Prop := ∀ x y, ρ.lookup x = some y → r.lookup x = some y
/-- how a turn of a loop may end -/
inductive Lp (ρ' : Loc) (σ' : List MO) (ok : Prop) (B : Loc → List MO → Prop) (Φ : Out → Prop) : Out → Prop
  | nx {r : Loc} : ok → Sub ρ' r → Lp ρ' σ' ok B Φ (.nx r σ')
  | ct {r : Loc} : ok → Sub ρ' r → Lp ρ' σ' ok B Φ (.ct r σ')
  | bk {r : Loc} {s : List MO} : B r s → Lp ρ' σ' ok B Φ (.bk r s)
  | rt {x : V} {s : List MO} : Φ (.rt x s) → Lp ρ' σ' ok B Φ (.rt x s)

/-- the state of a loop over an iterator, m turns before its end -/
noncomputable def LpI (g : Glo) (R : RS) (env : Env) (wr : List Addr) (St : Nat → Heap → Prop) (J : Nat → Loc) (S : Nat → List MO) (ok : Nat → Prop) (P₁ : PS) (δ₁ : List Addr) (N : Nat) (s : Shared) (m : Nat) (s' : Shared) : Prop :=
  ∃ P' δ' h' tk' i, s' = { s with heap := h', toks := tk' } ∧ (∀ b o, P₁ b o → P' b o) ∧ δ₁ <+: δ' ∧ Inv g R P' δ' env (J i) (S i) h' ∧ (∀ b ∈ wr, Free R P' δ' env b) ∧ St i h' ∧ ok i ∧ i ≤ N ∧ m = N - i
/-- where the loop leads -/
noncomputable def LpK (M : Model) (A : Around) (env : Env) (rest : List Stmt) (Q : Flow → Shared → Prop) : Result → Shared → Prop := fun r s' => match r with
  | .ok f => (match f with | .next => wpAny M A (execs rest env) Q NoE s' | f => Q f s')
  | .error e => cameBackBy M A env NoE e s'
/-- what a turn's statements lead to -/
noncomputable def LpQ (K : Result → Shared → Prop) (LI : Nat → Shared → Prop) (m : Nat) : Flow → Shared → Prop := fun f s₃ => match f with
  | .next | .cont => ∃ m', m' < m ∧ LI m' s₃
  | .brk => K (.ok .next) s₃
  | .ret v => K (.ok (.ret v)) s₃

theorem Lp.post {A : Around} {P₁ P₂ : PS} {δ₁ δ₂ : List Addr} {wr : List Addr} {J : Nat → Loc} {S : Nat → List MO} {ok : Nat → Prop} {St : Nat → Heap → Prop} {N i : Nat} {s : Shared} {h₂ : Heap} {tk₂ : Nat} {Q : Flow → Shared → Prop} (O : EnvOk env sc) (hA : AOk A n R env)
    (hb : ∀ b o, g.hb.get? b = some o → R.ex b o) (hlive : ∀ b ∈ wr, ∃ o, h₂.get? b = some o ∧ ∀ v, o.data ≠ .cell v) (hf₂ : ∀ b ∈ wr, Free R P₂ δ₂ env b) (hlt : i < N)
    (hframe : ∀ h', (∀ b ∈ wr, ∀ o, h₂.get? b = some o → h'.get? b = some o) → (∀ b o, P₁ b o → h'.get? b = some o) → St (i + 1) h') (le : ∀ b o, P b o → P₁ b o) (pr : δ <+: δ₁) (le₂ : ∀ b o, P₁ b o → P₂ b o) (pr₂ : δ₁ <+: δ₂)
    (k : ∀ o, Φ o → Post g R P δ env s Q o) {o : Out} (ho : Lp (J (i + 1)) (S (i + 1)) (ok (i + 1)) (fun r s => Ex g sc n rest r s Φ) Φ o) :
    Post g (held R wr h₂) P₂ δ₂ env { s with heap := h₂, toks := tk₂ } (LpQ (LpK (model g.prog g.w) A env rest Q) (LpI g R env wr St J S ok P₁ δ₁ N s) (N - i)) o := by
  have hc : ∀ b ∈ wr, ∀ o, h₂.get? b = some o → ∀ v, o.data ≠ .cell v := fun b hm o e => let ⟨o', ho', hc⟩ := hlive b hm; by rw [ho'] at e; cases e; exact hc
  have lv : ∀ b ∈ wr, ∃ o, h₂.get? b = some o := fun b hm => let ⟨o, ho, _⟩ := hlive b hm; ⟨o, ho⟩
  have step : ∀ (r : Loc) P₃ δ₃ h₃ tk₃, ok (i + 1) → Sub (J (i + 1)) r → (∀ b o, P₂ b o → P₃ b o) → δ₂ <+: δ₃ → Inv g (held R wr h₂) P₃ δ₃ env r (S (i + 1)) h₃ →
      ∃ m', m' < N - i ∧ LpI g R env wr St J S ok P₁ δ₁ N s m' { s with heap := h₃, toks := tk₃ } := by
    intro r P₃ δ₃ h₃ tk₃ hok hsub le₃ pr₃ I₃
    refine ⟨N - (i + 1), by omega, P₃, δ₃, h₃, tk₃, i + 1, rfl, fun b o z => le₃ b o (le₂ b o z), pr₂.trans pr₃, (I₃.unhold hb hc).forget hsub, I₃.still hb hf₂ lv, ?_, hok, by omega, rfl⟩
    exact hframe h₃ (fun b hm o e => I₃.keepR b o (.inr ⟨hm, e⟩)) fun b o p => I₃.keepP b o (le₃ b o (le₂ b o p))
  cases ho with
  | nx hok hsub => exact fun P₃ δ₃ h₃ tk₃ le₃ pr₃ I₃ => step _ P₃ δ₃ h₃ tk₃ hok hsub le₃ pr₃ I₃
  | ct hok hsub => exact fun P₃ δ₃ h₃ tk₃ le₃ pr₃ I₃ => step _ P₃ δ₃ h₃ tk₃ hok hsub le₃ pr₃ I₃
  | bk hB => exact fun P₃ δ₃ h₃ tk₃ le₃ pr₃ I₃ => hB.run env A R P₃ δ₃ _ Q O hA (I₃.unhold hb hc) fun o ho => (k o ho).mono (fun b o z => le₃ b o (le₂ b o (le b o z))) ((pr.trans pr₂).trans pr₃)
  | rt hΦ => exact fun v P₃ δ₃ h₃ tk₃ le₃ pr₃ I₃ s₃ => k _ hΦ v P₃ δ₃ h₃ tk₃ (fun b o z => le₃ b o (le₂ b o (le b o z))) ((pr.trans pr₂).trans pr₃) (I₃.unhold hb hc) s₃

theorem ex_for {tgt iter : Expr} {body : List Stmt} {pos : Pos} {xs : List V} (J : Nat → Loc) (S : Nat → List MO) (ok : Nat → Prop) (hsrc : Src g sc n iter ρ σ xs (S 0) tgt) (h0 : Sub (J 0) ρ) (ok0 : ok 0)
    (hturn : ∀ i y, xs[i]? = some y → ok i → ∃ ρ', Asg g sc n tgt y (J i) ρ' ∧ Ex g sc n body ρ' (S i) (Lp (J (i + 1)) (S (i + 1)) (ok (i + 1)) (fun r s => Ex g sc n rest r s Φ) Φ))
    (hend : ok xs.length → Ex g sc n rest (J xs.length) (S xs.length) Φ) (hs : ∀ env x, foldedSetIterable iter env x = pure x := by intro _ _; rfl) :
    Ex g sc n (.For tgt iter body [] pos :: rest) ρ σ Φ := .mk fun env A R P δ s Q O hA I k => by
  refine wpAny_execs_cons (wpAny_For ?_ (hs env))
  refine wpAny_mono (hsrc.run env A R P δ s (fun it s₂ => codeAny (model g.prog g.w) A (.forLoop tgt it body [] env) (LpK (model g.prog g.w) A env rest Q) s₂) O hA I fun It wr St P₁ δ₁ h₁ tk₁ le₁ pr₁ I₁ hf₁ W st₁ => ?_) (fun _ _ x => wpAny_mono x (fun _ _ x => x) fun _ _ e => e) fun _ _ x => x
  have W := W A hA.handled
  refine codeAny_forLoop_any (LpI g R env wr St J S ok P₁ δ₁ xs.length s) ?_ xs.length ⟨P₁, δ₁, h₁, tk₁, 0, rfl, fun _ _ z => z, List.prefix_refl _, I₁.forget h0, hf₁, st₁, ok0, Nat.zero_le _, rfl⟩
  rintro m s' ⟨P', δ', h', tk', i, rfl, le, pr, I', hf, st, hok, hi, rfl⟩
  by_cases hlt : i < xs.length
  · obtain ⟨ρ', ha, hx⟩ := hturn i xs[i] (List.getElem?_eq_getElem hlt) hok
    refine wpAny_mono (W.turn O hA (i := i) (s := { s with heap := h', toks := tk' }) (List.getElem?_eq_getElem hlt) I' le pr hf st ha
      (Q := fun s₂ => wpAny (model g.prog g.w) A (execs body env) (LpQ (LpK (model g.prog g.w) A env rest Q) (LpI g R env wr St J S ok P₁ δ₁ xs.length s) (xs.length - i)) NoE s₂) fun P₂ δ₂ h₂ tk₂ le₂ pr₂ I₂ hf₂ st₂ => ?_) (fun r s₁ hr => ?_) fun _ _ e => e.elim
    · refine hx.run env A (held R wr h₂) P₂ δ₂ _ _ O hA.held I₂ fun o ho => ?_
      exact Lp.post (s := s) O hA I.base (W.live _ _ st₂) hf₂ hlt (fun h₃ a b => W.frame _ _ _ st₂ a (fun c o p => I₂.keepP c o (le₂ c o (le c o p))) b) le₁ pr₁ (fun b o z => le₂ b o (le b o z)) (pr.trans pr₂) k ho
    · cases r with
      | none => exact hr.elim
      | some v => exact wpAny_mono hr (fun _ _ z => wpAny_mono z (fun _ _ z => wpAny_mono z (fun f s z => by cases f <;> exact z) fun _ _ e => e.elim) fun _ _ e => e.elim) fun _ _ e => e.elim
  · have hn : i = xs.length := by omega
    subst hn
    refine wpAny_mono (W.done { s with heap := h', toks := tk' } (fun r s₁ => r = none ∧ wpAny (model g.prog g.w) A (execs rest env) Q NoE s₁) st (fun b o p => I'.keepP b o (le b o p)) fun h₂ tk₂ hk => ⟨rfl, ?_⟩) (fun r s₁ hr => ?_) fun _ _ e => e.elim
    · have I₂ : Inv g R P' δ' env (J xs.length) (S xs.length) h₂ := I'.keeps fun b o k e => hk b o (fun hm => by
        have f := hf b hm
        rcases k with ⟨q, k⟩ | ⟨q, k⟩ | k | k
        · exact f.r _ k
        · exact f.p _ k
        · exact f.d k
        · exact f.s k) e
      exact (hend hok).run env A R P' δ' { s with heap := h₂, toks := tk₂ } Q O hA I₂ fun o ho => (k o ho).mono (fun b o z => le b o (le₁ b o z)) (pr₁.trans pr)
    · obtain ⟨rfl, hr⟩ := hr
      exact wpAny_execs_nil hr

theorem get_ge (h : Heap) {a : Addr} (ha : h.objs.size ≤ a) : h.get? a = none := by
  cases e : h.get? a with
  | none => rfl
  | some o => exact absurd (Heap.lt_size e) (Nat.not_lt.mpr ha)

/-- what is iterated over is a list -/
theorem src_list {iter tgt : Expr} {xs : List V} (h1 : Ev g sc n iter ρ σ (.list xs) σ₁) (ht : isNameE tgt = true ∨ ((∃ elts k pos, tgt = .Tuple elts k pos) ∧ ∀ y ∈ xs, ∃ ys, y = .tup ys)) : Src g sc n iter ρ σ xs σ₁ tgt := .mk fun env A R P δ s Q O hA I h => by
  refine h1.run env A R P δ s _ O hA I fun v P₁ δ₁ hh₁ tk₁ le₁ pr₁ I₁ s₁ => ?_
  obtain ⟨a, o, vs, m, rfl, h1, h2, h3, h4⟩ := s₁.tells
  have ho := I₁.keepP _ _ h1
  have hlist : hh₁.IsList a vs.toArray := ⟨o, ho, h2, m, h3⟩
  have hlt := Heap.lt_size ho
  have hne : a ≠ hh₁.objs.size := Nat.ne_of_lt hlt
  have hlen := h4.length
  refine wpAny_pyIter_list hlist ?_
  refine h hh₁.objs.size [hh₁.objs.size] (fun i h => h.IsListIter hh₁.objs.size a i ∧ h.IsList a vs.toArray) P₁ δ₁ _ tk₁ le₁ pr₁ (I₁.grows fun b o e => Heap.get?_push_of_some _ e) (fun b hb => List.mem_singleton.mp hb ▸ I₁.free (get_size_none hh₁)) (fun A' hA' => ?_)
    ⟨⟨_, Heap.get?_push_size _ rfl, rfl, rfl⟩, hlist.push _⟩
  have W := Walks.list (prog := g.prog) (w := g.w) hA' hh₁.objs.size a hne vs.toArray
  refine ⟨?_, ?_, ?_, fun i s Q st hQ => W.self i s Q NoE st hQ, ?_⟩
  · rintro i h ⟨⟨o, e, _, hd⟩, _⟩ b hb
    rw [List.mem_singleton.mp hb]
    exact ⟨o, e, fun v c => by rw [hd] at c; cases c⟩
  · rintro i h h' ⟨st1, st2⟩ hw hp hp'
    exact ⟨st1.at fun o e => hw _ (List.mem_singleton.mpr rfl) o e, ⟨o, hp' _ _ h1, h2, m, h3⟩⟩
  · intro i y s Q hy st hp hQ
    have hi : i < xs.length := (List.getElem?_eq_some_iff.mp hy).1
    refine wpAny_mono (W.item i s (fun r s₁ => match r with
      | none => False
      | some v => wpAny (model g.prog g.w) A' (letOwnedTupleGo tgt (.ref hh₁.objs.size) v) (fun _ s' => Q v s') NoE s₁) NoE (by simp; omega) st fun v h' tk hv st' hk => ?_) (fun _ _ x => x) fun _ _ x => x
    have hv' : vs[i]? = some v := by simpa using hv
    have hs := h4.2 i v y hv' hy
    have hq := hQ v h' tk st' (.inl hs) hk
    rcases ht with ht | ⟨⟨elts, k, pos, rfl⟩, hys⟩
    · obtain ⟨_, _, rfl⟩ := nameE_tells ht; exact wpAny_pure hq
    · obtain ⟨ys, rfl⟩ := hys y (List.mem_of_getElem? hy)
      obtain ⟨T, _, _, _, rfl, _⟩ := hs.tells
      exact wpAny_letOwnedTupleGo_listiter (s := { s with heap := h', toks := tk }) st'.1 hq
  · intro s Q st hp hQ
    exact W.done s Q NoE (by have : vs.toArray.size = xs.length := by simp [hlen]
                             rw [this]; exact st) hQ
theorem src_tup {iter tgt : Expr} {xs : List V} (h1 : Ev g sc n iter ρ σ (.tup xs) σ₁) (ht : isNameE tgt = true) : Src g sc n iter ρ σ xs σ₁ tgt := .mk fun env A R P δ s Q O hA I h => by
  refine h1.run env A R P δ s _ O hA I fun v P₁ δ₁ hh₁ tk₁ le₁ pr₁ I₁ s₁ => ?_
  obtain ⟨a, o, vs, m, rfl, h1, h2, h3, h4⟩ := s₁.tells
  have ho := I₁.keepP _ _ h1
  have hlist : hh₁.IsTuple a vs.toArray := ⟨o, ho, h2, m, h3⟩
  have hlt := Heap.lt_size ho
  have hne : a ≠ hh₁.objs.size := Nat.ne_of_lt hlt
  have hlen := h4.length
  refine wpAny_pyIter_tuple hlist ?_
  refine h hh₁.objs.size [hh₁.objs.size] (fun i h => h.IsTupleIter hh₁.objs.size a i ∧ h.IsTuple a vs.toArray) P₁ δ₁ _ tk₁ le₁ pr₁ (I₁.grows fun b o e => Heap.get?_push_of_some _ e) (fun b hb => List.mem_singleton.mp hb ▸ I₁.free (get_size_none hh₁)) (fun A' hA' => ?_)
    ⟨⟨_, Heap.get?_push_size _ rfl, rfl, rfl⟩, ⟨o, Heap.get?_push_of_some _ ho, h2, m, h3⟩⟩
  have W := Walks.tuple (prog := g.prog) (w := g.w) hA' hh₁.objs.size a hne vs.toArray
  refine ⟨?_, ?_, ?_, fun i s Q st hQ => W.self i s Q NoE st hQ, ?_⟩
  · rintro i h ⟨⟨o, e, _, hd⟩, _⟩ b hb
    rw [List.mem_singleton.mp hb]
    exact ⟨o, e, fun v c => by rw [hd] at c; cases c⟩
  · rintro i h h' ⟨st1, st2⟩ hw hp hp'
    exact ⟨st1.at fun o e => hw _ (List.mem_singleton.mpr rfl) o e, ⟨o, hp' _ _ h1, h2, m, h3⟩⟩
  · intro i y s Q hy st hp hQ
    have hi : i < xs.length := (List.getElem?_eq_some_iff.mp hy).1
    refine wpAny_mono (W.item i s (fun r s₁ => match r with
      | none => False
      | some v => wpAny (model g.prog g.w) A' (letOwnedTupleGo tgt (.ref hh₁.objs.size) v) (fun _ s' => Q v s') NoE s₁) NoE (by simp; omega) st fun v h' tk hv st' hk => ?_) (fun _ _ x => x) fun _ _ x => x
    have hv' : vs[i]? = some v := by simpa using hv
    have hs := h4.2 i v y hv' hy
    have hq := hQ v h' tk st' (.inl hs) hk
    obtain ⟨_, _, rfl⟩ := nameE_tells ht; exact wpAny_pure hq
  · intro s Q st hp hQ
    exact W.done s Q NoE (by have : vs.toArray.size = xs.length := by simp [hlen]
                             rw [this]; exact st) hQ

theorem Wkr.ofT {A : Around} {I : Addr} {fp wr wr' : List Addr} {xs : List V} {Pt : Nat → Array Value → Prop} {St : Nat → Heap → Prop} {Mid : Nat → Addr → Heap → Prop} {elts : List Expr} {k : Nat} {pos : Pos} (W : WalksT g.prog g.w A I fp wr xs.length Pt St Mid) (hsub : ∀ b ∈ wr, b ∈ wr')
    (hfp : ∀ b ∈ fp, b ∈ wr' ∨ ∃ o, P b o) (hlive : ∀ i h, St i h → ∀ b ∈ wr', ∃ o, h.get? b = some o ∧ ∀ v, o.data ≠ .cell v) (hpt : ∀ i vals y, Pt i vals → xs[i]? = some y → ∃ ys, y = .tup ys ∧ g.SeesL P δ vals.toList ys) :
    Wkr g A P δ I wr' xs (.Tuple elts k pos) St where
  live := hlive
  frame := fun i h h' st hw hp hp' => W.frame i h h' st fun b hb o e => by
    rcases hfp b hb with hb | ⟨o', p⟩
    · exact hw b hb o e
    · have := hp b o' p
      rw [this] at e; cases e
      exact hp' b o p
  item := fun i y s Q hy st hp hQ => by
    have hi : i < xs.length := (List.getElem?_eq_some_iff.mp hy).1
    refine W.item i s _ NoE hi st fun T vals h' tk hv hsz hT hmid hk => ?_
    obtain ⟨ys, rfl, hs⟩ := hpt i vals y hv hy
    refine W.go elts k pos i T { s with heap := h', toks := tk } _ NoE hmid fun h'' st' hk' => ?_
    have hTw := W.apart i T h' hmid
    obtain ⟨o, ho, hc, m, hd⟩ := hT
    exact hQ (.ref T) h'' tk st' (.inr ⟨T, vals.toList, ys, rfl, rfl, get_ge s.heap hsz, ⟨o, hk' T o hTw ho, hc, m, by simpa using hd⟩, hs⟩) fun b o hb e => hk' b o (fun z => hb (hsub b z)) (hk b o (fun z => hb (hsub b z)) e)
  self := fun i s Q st hQ => W.self i s Q NoE st hQ
  done := fun s Q st hp hQ => W.done s Q NoE st fun h' tk hk => hQ h' tk fun b o hb e => hk b o (fun z => hb (hsub b z)) e

theorem src_enum {pf pos pt : Pos} {e : Expr} {elts : List Expr} {k : Nat} {xs : List V} (h1 : Ev g sc n e ρ σ (.list xs) σ₁) (he : isStar e = false := by rfl) (hf : isGlob sc "enumerate" = true := by decide +kernel) (hm : g.mg "enumerate" = none := by first | assumption | exact (‹Has g _›).blt _ (by decide +kernel)) :
    Src g sc n (.Call (.Name "enumerate" pf) [e] [] pos) ρ σ (xs.zipIdx.map fun p => .tup [.int p.2, p.1]) σ₁ (.Tuple elts k pt) := .mk fun env A R P δ s Q O hA I h => by
  have hp : noStar [e] = true := by unfold noStar; simp [he]
  refine wpAny_Call_NameR (wp_builtin O I hf hm (v := .type "enumerate") (by decide +kernel) (by decide) (PySem.callWith_type (noStar_any hp) (evalArgs_first (noStar_first hp) ?_)))
  refine (evl_cons h1 evl_nil he).run env A R P δ s _ O hA I fun vs P₁ δ₁ hh₁ tk₁ le₁ pr₁ I₁ s₁ => ?_
  obtain ⟨v, rfl, s₂⟩ := s₁.one
  obtain ⟨a, o, vs, m, rfl, h1, h2, h3, h4⟩ := s₂.tells
  have ho := I₁.keepP _ _ h1
  have hlist : hh₁.IsList a vs.toArray := ⟨o, ho, h2, m, h3⟩
  have hlt := Heap.lt_size ho
  have hlen := h4.length
  refine call_enumerate_list (s := { s with heap := hh₁, toks := tk₁ }) hlist fun h' hen hit hsz hk => ?_
  refine wpAny_pyIter_enum hen ?_
  refine h (hh₁.objs.size + 1) [hh₁.objs.size + 1, hh₁.objs.size] (fun i h => (∃ old, IsEnum h (hh₁.objs.size + 1) hh₁.objs.size i old) ∧ h.IsListIter hh₁.objs.size a i ∧ h.IsList a vs.toArray) P₁ δ₁ h' tk₁ le₁ pr₁ (I₁.grows hk) (fun b hb => ?_) (fun A' hA' => ?_)
    ⟨⟨_, hen⟩, hit, ⟨o, hk _ _ ho, h2, m, h3⟩⟩
  · rcases List.mem_cons.mp hb with rfl | hb
    · exact I₁.free (get_ge hh₁ (Nat.le_succ _))
    · rw [List.mem_singleton.mp hb]; exact I₁.free (get_size_none hh₁)
  · have W := WalksT.enumerate (prog := g.prog) (w := g.w) hA' (hh₁.objs.size + 1) hh₁.objs.size a (Nat.succ_ne_self _) (Nat.ne_of_lt (Nat.lt_succ_of_lt hlt)) (Nat.ne_of_lt hlt) vs.toArray
    have hn : vs.toArray.size = (xs.zipIdx.map fun p => V.tup [.int p.2, p.1]).length := by simp [hlen]
    rw [hn] at W
    refine Wkr.ofT W (fun b z => z) (fun b hb => ?_) ?_ ?_
    · simp at hb
      rcases hb with rfl | rfl | rfl
      · exact .inl (by simp)
      · exact .inl (by simp)
      · exact .inr ⟨o, h1⟩
    · rintro i h ⟨⟨old, hE⟩, ⟨o', e', _, hd'⟩, _⟩ b hb
      rcases List.mem_cons.mp hb with rfl | hb
      · exact ⟨_, hE, fun v c => by cases c⟩
      · rw [List.mem_singleton.mp hb]; exact ⟨o', e', fun v c => by rw [hd'] at c; cases c⟩
    · rintro i vals y ⟨t, x, hx, rfl⟩ hy
      rw [List.getElem?_map] at hy
      obtain ⟨p, hp, rfl⟩ := Option.map_eq_some_iff.mp hy
      rw [List.getElem?_zipIdx] at hp
      obtain ⟨x', hx', rfl⟩ := Option.map_eq_some_iff.mp hp
      refine ⟨_, rfl, .cons ?_ (.cons (h4.2 i x x' (by simpa using hx) hx') .nil)⟩
      have : ((0 + i : Nat) : Int) = (i : Int) := by omega
      rw [this]
      exact .int _ _

theorem zip_apart (N a b : Nat) (ha : a < N) (hb : b < N) : ZipApart (N + 4) (N + 2) (N + 3) N (N + 1) a b :=
  ⟨fun (e : N + 2 = N + 4) => by omega, fun (e : N + 3 = N + 4) => by omega, fun (e : N = N + 4) => by omega, fun (e : N + 1 = N + 4) => by omega, fun (e : N + 2 = N + 3) => by omega, fun (e : N + 2 = N) => by omega, fun (e : N + 2 = N + 1) => by omega,
   fun (e : N + 3 = N) => by omega, fun (e : N + 3 = N + 1) => by omega, fun (e : N = N + 1) => by omega, fun (e : a = N + 4) => by omega, fun (e : a = N + 3) => by omega, fun (e : a = N) => by omega, fun (e : a = N + 1) => by omega,
   fun (e : b = N + 4) => by omega, fun (e : b = N + 3) => by omega, fun (e : b = N) => by omega, fun (e : b = N + 1) => by omega⟩
theorem src_zip {pf pos pt : Pos} {e₁ e₂ : Expr} {elts : List Expr} {k : Nat} {xs ys : List V} (h1 : Ev g sc n e₁ ρ σ (.list xs) σ₁) (h2 : Ev g sc n e₂ ρ σ₁ (.list ys) σ₂) (he : isStar e₁ = false := by rfl) (he' : isStar e₂ = false := by rfl) (hf : isGlob sc "zip" = true := by decide +kernel) (hm : g.mg "zip" = none := by first | assumption | exact (‹Has g _›).blt _ (by decide +kernel)) :
    Src g sc n (.Call (.Name "zip" pf) [e₁, e₂] [] pos) ρ σ (List.zipWith (fun x y => .tup [x, y]) xs ys) σ₂ (.Tuple elts k pt) := .mk fun env A R P δ s Q O hA I h => by
  have hp : noStar [e₁, e₂] = true := by unfold noStar; simp [he, he']
  refine wpAny_Call_NameR (wp_builtin O I hf hm (v := .type "zip") (by decide +kernel) (by decide) (PySem.callWith_type (noStar_any hp) (evalArgs_first (noStar_first hp) ?_)))
  refine (evl_cons h1 (evl_cons h2 evl_nil he') he).run env A R P δ s _ O hA I fun vs P₁ δ₁ hh₁ tk₁ le₁ pr₁ I₁ s₁ => ?_
  obtain ⟨v, u, rfl, s₁, s₂⟩ := s₁.two
  obtain ⟨a, o, vs, m, rfl, h1, h2, h3, h4⟩ := s₁.tells
  obtain ⟨b, q, us, m', rfl, h1', h2', h3', h4'⟩ := s₂.tells
  have ho := I₁.keepP _ _ h1
  have hq := I₁.keepP _ _ h1'
  have hlist : hh₁.IsList a vs.toArray := ⟨o, ho, h2, m, h3⟩
  have hlist' : hh₁.IsList b us.toArray := ⟨q, hq, h2', m', h3'⟩
  have hlt := Heap.lt_size ho
  have hlt' := Heap.lt_size hq
  have hlen := h4.length
  have hlen' := h4'.length
  generalize hN : hh₁.objs.size = N at hlt hlt'
  refine call_zip_2 (s := { s with heap := hh₁, toks := tk₁ }) hlist hlist' fun h' hz hTI hTO hi1 hi2 hsz hk => ?_
  simp only [hN] at hz hTI hTO hi1 hi2 hsz ⊢
  have hge : ∀ j : Nat, hh₁.objs.size ≤ N + j := fun j => by rw [hN]; exact Nat.le_add_right N j
  refine wpAny_pyIter_zip hz ?_
  refine h (N + 4) [N + 4, N + 3, N, N + 1, N + 2] (fun i h => IsZip h (N + 4) (N + 2) (N + 3) .none ∧ IsPair h (N + 2) (.ref N) (.ref (N + 1)) ∧ (∃ a b, IsPair h (N + 3) a b) ∧ h.IsListIter N a i ∧ h.IsListIter (N + 1) b i ∧ h.IsList a vs.toArray ∧ h.IsList b us.toArray)
    P₁ δ₁ h' tk₁ le₁ pr₁ (I₁.grows hk) (fun c hc => I₁.free (get_ge hh₁ ?_)) (fun A' hA' => ?_) ⟨hz, hTI, ⟨_, _, hTO⟩, hi1, hi2, ⟨o, hk _ _ ho, h2, m, h3⟩, ⟨q, hk _ _ hq, h2', m', h3'⟩⟩
  · simp at hc
    rcases hc with e | e | e | e | e <;> rw [e]
    · exact hge 4
    · exact hge 3
    · exact hge 0
    · exact hge 1
    · exact hge 2
  · have D := zip_apart N a b hlt hlt'
    have W := WalksT.zip2 (prog := g.prog) (w := g.w) hA' (N + 4) (N + 2) (N + 3) N (N + 1) a b D vs.toArray us.toArray
    have hn : min vs.toArray.size us.toArray.size = (List.zipWith (fun x y => V.tup [x, y]) xs ys).length := by simp [hlen, hlen']
    rw [hn] at W
    refine Wkr.ofT W (fun c z => ?_) (fun c hc => ?_) ?_ ?_
    · simp at z ⊢
      rcases z with z | z | z | z <;> simp [z]
    · simp at hc
      rcases hc with rfl | rfl | rfl | rfl | rfl | rfl | rfl
      · exact .inl (by simp)
      · exact .inl (by simp)
      · exact .inl (by simp)
      · exact .inl (by simp)
      · exact .inl (by simp)
      · exact .inr ⟨o, h1⟩
      · exact .inr ⟨q, h1'⟩
    · rintro i h ⟨z1, z2, ⟨_, _, z3⟩, ⟨o1, z4, _, d4⟩, ⟨o2, z5, _, d5⟩, _⟩ c hc
      simp at hc
      rcases hc with rfl | rfl | rfl | rfl | rfl
      · exact ⟨_, z1, fun v c => by cases c⟩
      · exact ⟨_, z3, fun v c => by cases c⟩
      · exact ⟨_, z4, fun v c => by rw [d4] at c; cases c⟩
      · exact ⟨_, z5, fun v c => by rw [d5] at c; cases c⟩
      · exact ⟨_, z2, fun v c => by cases c⟩
    · rintro i vals y ⟨x, x', hx, hx', rfl⟩ hy
      rw [List.getElem?_zipWith] at hy
      cases hxs : xs[i]? with
      | none => simp [hxs] at hy
      | some u =>
        cases hys : ys[i]? with
        | none => simp [hxs, hys] at hy
        | some u' =>
          simp [hxs, hys] at hy
          subst hy
          exact ⟨_, rfl, .cons (h4.2 i x u (by simpa using hx) hxs) (.cons (h4'.2 i x' u' (by simpa using hx') hys) .nil)⟩
end
end Mine
end
section
open PySem PySem.W PyProof.Rows PySem.Calls PySem.SeqAt
set_option Elab.async false
set_option linter.unusedVariables false
set_option maxRecDepth 100000
namespace Mine
section
variable {g : Glo} {R : RS} {P P' : PS} {δ δ' : List Addr} {env : Env} {ρ ρ' ρ₁ ρ₂ : Loc} {σ σ' σ₁ σ₂ σ₃ : List MO} {h h' : Heap} {sc : Scope} {n : Nat} {Φ : Out → Prop} {rest : List Stmt}

theorem ex_while {test : Expr} {body : List Stmt} {pos : Pos} (J : Nat → Loc) (S : Nat → List MO) (ok : Nat → Prop) (N : Nat) (hσ : σ = S 0) (h0 : Sub (J 0) ρ) (ok0 : ok 0)
    (hturn : ∀ i, i < N → ok i → EvB g sc n test (J i) (S i) true (S i) ∧ Ex g sc n body (J i) (S i) (Lp (J (i + 1)) (S (i + 1)) (ok (i + 1)) (fun r s => Ex g sc n rest r s Φ) Φ))
    (hend : ok N → EvB g sc n test (J N) (S N) false (S N) ∧ Ex g sc n rest (J N) (S N) Φ) : Ex g sc n (.While test body [] pos :: rest) ρ σ Φ := .mk fun env A R P δ s Q O hA I k => by
  subst hσ
  refine wpAny_execs_cons (wpAny_While ?_)
  have conv : codeAny (model g.prog g.w) A (.whileLoop test body [] env) (LpK (model g.prog g.w) A env rest Q) s := by
    refine codeAny_whileLoop (LpI g R env [] (fun _ _ => True) J S ok P δ N s) ?_ N ⟨P, δ, s.heap, s.toks, 0, rfl, fun _ _ z => z, List.prefix_refl _, I.forget h0, fun b hb => (by cases hb), trivial, ok0, Nat.zero_le _, rfl⟩
    rintro m s' ⟨P', δ', h', tk', i, rfl, le, pr, I', hf, st, hok, hi, rfl⟩
    by_cases hlt : i < N
    · obtain ⟨ht, hx⟩ := hturn i hlt hok
      refine wpAny_mono (ht.run env A R P' δ' { s with heap := h', toks := tk' } (fun b s₂ => if b = true then wpAny (model g.prog g.w) A (execs body env) (LpQ (LpK (model g.prog g.w) A env rest Q) (LpI g R env [] (fun _ _ => True) J S ok P δ N s) (N - i)) NoE s₂ else False) O hA I' fun b P₁ δ₁ h₁ tk₁ le₁ pr₁ I₁ e => ?_) (fun b s₂ hb => ?_) fun _ _ e => e.elim
      · subst e
        rw [if_pos rfl]
        have hfe : ∀ b ∈ ([] : List Addr), Free R P₁ δ₁ env b := fun b hb => by cases hb
        refine hx.run env A (held R [] h₁) P₁ δ₁ _ _ O hA.held (I₁.hold hfe) fun o ho => ?_
        exact Lp.post (s := s) O hA I.base (fun b hb => by cases hb) hfe hlt (fun _ _ _ => trivial) (fun _ _ z => z) (List.prefix_refl _) (fun b o z => le₁ b o (le b o z)) (pr.trans pr₁) k ho
      · cases b with
        | true =>
          rw [if_pos rfl] at hb ⊢
          exact wpAny_mono hb (fun f s z => by cases f <;> exact z) fun _ _ e => e.elim
        | false => exact hb.elim
    · have hn : i = N := by omega
      subst hn
      obtain ⟨ht, hx⟩ := hend hok
      refine wpAny_mono (ht.run env A R P' δ' { s with heap := h', toks := tk' } (fun b s₂ => b = false ∧ wpAny (model g.prog g.w) A (execs rest env) Q NoE s₂) O hA I' fun b P₁ δ₁ h₁ tk₁ le₁ pr₁ I₁ e => ⟨e, ?_⟩) (fun b s₂ hb => ?_) fun _ _ e => e.elim
      · exact hx.run env A R P₁ δ₁ _ Q O hA I₁ fun o ho => (k o ho).mono (fun b o z => le₁ b o (le b o z)) (pr.trans pr₁)
      · obtain ⟨rfl, hb⟩ := hb
        simp only [Bool.false_eq_true, if_false]
        exact wpAny_execs_nil hb
  refine codeAny_mono conv fun r s' z => ?_
  cases r with
  | ok f => cases f <;> exact z
  | error e => exact z
end
end Mine
end
section
open PySem PySem.W PyProof.Rows PySem.Calls PySem.SeqAt
set_option Elab.async false
set_option linter.unusedVariables false
set_option maxRecDepth 100000
namespace Mine

/-- the scope of a comprehension, within that of its function -/
noncomputable def relab (scope sc : Scope) : Scope := { scope with names := scope.names.map fun (n, k) => if (k == .free && sc.kind == .function && sc.names.lookup n == some .cell) then (n, .cell) else (n, k) }
theorem relabel_eq {env : Env} {sc scope : Scope} (h : env.scope = sc) : relabel scope env = relab scope sc := by
  unfold relabel relab Env.kindOf
  rw [h]

theorem closureFor_ok {scope : Scope} {env : Env} (h : ∀ x ∈ scope.names, x.2 = .free → ∃ a, env.cells.lookup x.1 = some a) :
    ∃ cl, closureFor scope env = pure cl ∧ (∀ n a, cl.lookup n = some a → env.cells.lookup n = some a) ∧ ∀ x ∈ scope.names, x.2 = .free → ∃ a, cl.lookup x.1 = some a := by
  unfold closureFor
  have key : ∀ (l : List (Str × NameKind)) (acc : List (Str × Addr)), (∀ x ∈ l, x.2 = .free → ∃ a, env.cells.lookup x.1 = some a) → (∀ n a, acc.lookup n = some a → env.cells.lookup n = some a) →
      ∃ cl, (forIn l acc (fun (x : Str × NameKind) (cs : List (Str × Addr)) => match x with
        | (name, kind) => if (kind == NameKind.free) = true then do
            let a ← cellOf env name
            pure (ForInStep.yield ((name, a) :: cs))
          else pure (ForInStep.yield cs)) : Sem (List (Str × Addr))) = pure cl ∧ (∀ n a, cl.lookup n = some a → env.cells.lookup n = some a) ∧ (∀ x ∈ l, x.2 = .free → ∃ a, cl.lookup x.1 = some a) ∧ ∀ n a, acc.lookup n = some a → ∃ a', cl.lookup n = some a' := by
    intro l
    induction l with
    | nil => intro acc _ ha; exact ⟨acc, rfl, ha, fun x hx => (nomatch hx), fun n a e => ⟨a, e⟩⟩
    | cons x r ih =>
      intro acc hl ha
      obtain ⟨n, k⟩ := x
      by_cases hk : (k == NameKind.free) = true
      · have hkf : k = .free := by simpa using hk
        obtain ⟨a, ea⟩ := hl (n, k) List.mem_cons_self hkf
        obtain ⟨cl, e, h1, h2, h3⟩ := ih ((n, a) :: acc) (fun x hx => hl x (List.mem_cons_of_mem _ hx)) (fun n' a' e' => by
          rw [List.lookup_cons] at e'
          by_cases hn : n' = n
          · subst hn; simp only [beq_self_eq_true] at e'; cases e'; exact ea
          · have : (n' == n) = false := by simpa using hn
            rw [this] at e'; exact ha _ _ e')
        refine ⟨cl, ?_, h1, fun x hx hf => ?_, fun n' a' e' => ?_⟩
        · rw [List.forIn_cons]
          simp only [hk, if_true]
          have hc : cellOf env n = pure a := by unfold cellOf; rw [ea]
          rw [hc]
          exact e
        · rcases List.mem_cons.mp hx with rfl | hx
          · exact h3 n a (by simp)
          · exact h2 x hx hf
        · by_cases hn : n' = n
          · subst hn; exact h3 n' a (by simp)
          · exact h3 n' a' (by
              rw [List.lookup_cons]
              have : (n' == n) = false := by simpa using hn
              rw [this]; exact e')
      · obtain ⟨cl, e, h1, h2, h3⟩ := ih acc (fun x hx => hl x (List.mem_cons_of_mem _ hx)) ha
        refine ⟨cl, ?_, h1, fun x hx hf => ?_, h3⟩
        · rw [List.forIn_cons]
          simp only [hk]
          exact e
        · rcases List.mem_cons.mp hx with rfl | hx
          · exact absurd hf (by simpa using hk)
          · exact h2 x hx hf
  obtain ⟨cl, e, h1, h2, _⟩ := key scope.names [] h (fun n a e => by cases e)
  refine ⟨cl, ?_, h1, h2⟩
  show (forIn scope.names [] _ >>= fun cs => pure cs) = pure cl
  rw [bind_pure]
  exact e

section
variable {g : Glo} {R : RS} {P P' : PS} {δ δ' : List Addr} {env cenv : Env} {ρ ρ' ρc ρ₁ ρ₂ : Loc} {σ σ' σ₁ σ₂ σ₃ : List MO} {h h' : Heap} {sc : Scope} {n : Nat} {Φ : Out → Prop} {rest : List Stmt}

/-- while a comprehension runs, its function's frame stays as it is, but for the names they share -/
noncomputable def within (R : RS) (env cenv : Env) (h : Heap) : RS := ⟨R.ex, fun b o => R.up b o ∨ (slot env b ∧ ¬ slot cenv b ∧ h.get? b = some o)⟩
theorem within_any {b : Addr} {o : Obj} (x : (within R env cenv h).any b o) : R.any b o ∨ (slot env b ∧ ¬ slot cenv b ∧ h.get? b = some o) := by
  rcases x with x | x | x
  · exact .inl (.inl x)
  · exact .inl (.inr x)
  · exact .inr x
theorem any_within {b : Addr} {o : Obj} (x : R.any b o) : (within R env cenv h).any b o := by
  rcases x with x | x
  · exact .inl x
  · exact .inr (.inl x)

/-- the names of a comprehension that are its function's -/
structure Shares (env cenv : Env) (C : Addr) (ρc ρ : Loc) : Prop where
  loc : cenv.locals = C
  cells : ∀ x c, cenv.kindOf x = some .cell → cenv.cells.lookup x = some c → env.kindOf x = some .cell ∧ env.cells.lookup x = some c
  has : ∀ x, cenv.kindOf x = some .cell → ∃ c, cenv.cells.lookup x = some c
  sub : ∀ x y, ρc.lookup x = some y → ρ.lookup x = some y ∧ cenv.kindOf x = some .cell
  all : ∀ x y, cenv.kindOf x = some .cell → ρ.lookup x = some y → ρc.lookup x = some y

theorem Inv.inner {C : Addr} (I : Inv g R P δ env ρ σ h) (hs : Shares env cenv C ρc ρ) (hC : h.get? C = none) (hn : h'.Ns C (fun _ => none)) (hk : ∀ b o, h.get? b = some o → h'.get? b = some o) : Inv g (within R env cenv h) P δ cenv ρc σ h' := by
  have I' := I.grows hk
  have f := I.free hC
  have sl : ∀ a, slot cenv a → a = C ∨ slot env a := by
    rintro a (rfl | ⟨x, hx, hc⟩)
    · exact .inl hs.loc
    · obtain ⟨e1, e2⟩ := hs.cells x a hx hc
      exact .inr (.inr ⟨x, e1, e2⟩)
  refine
  { keepR := I'.keepR, keepU := ?_, part := ?_, keepP := I'.keepP, base := I.base, sep := ?_, loc := ?_, cel := ?_, one := ?_, nloc := ?_, offP := ?_, offR := ?_, offD := ?_, dP := I.dP, dR := ?_, dN := I.dN, len := I.len, objs := I'.objs }
  · rintro b o (r | ⟨_, _, e⟩)
    · exact I'.keepU b o r
    · exact ⟨o.slots, hk _ _ e⟩
  · rintro b o o' r (u | ⟨hs', _, e⟩)
    · exact I.part b o o' r u
    · exact I.offR b o hs' (.inl r)
  · intro b o o' p q
    rcases within_any q with r | ⟨hs', _, e⟩
    · exact I.sep b o o' p r
    · exact absurd p (I.offP b o hs')
  · refine ⟨_, by rw [hs.loc]; exact hn, fun x y e => ?_⟩
    obtain ⟨e1, e2⟩ := hs.sub x y e
    obtain ⟨m, _, hm⟩ := I.loc
    obtain ⟨v, hv, hl⟩ := hm x y e1
    obtain ⟨c, hc⟩ := hs.has x e2
    obtain ⟨k1, k2⟩ := hs.cells x c e2 hc
    refine ⟨v, hv, .inr (.inl ⟨e2, c, hc, ?_⟩)⟩
    rcases hl with ⟨l, _⟩ | ⟨_, c', hc', o, ho, hd⟩ | ⟨l, _⟩
    · rw [k1] at l; cases l
    · rw [k2] at hc'; cases hc'
      exact ⟨o, hk _ _ ho, hd⟩
    · rw [k1] at l; cases l
  · intro x hx
    obtain ⟨c, hc⟩ := hs.has x hx
    obtain ⟨k1, k2⟩ := hs.cells x c hx hc
    obtain ⟨c', ov, e, o, ho, hd⟩ := I.cel x k1
    rw [k2] at e; cases e
    exact ⟨c, ov, hc, o, hk _ _ ho, hd⟩
  · intro x y c hx hy hxc hyc
    obtain ⟨a1, a2⟩ := hs.cells x c hx hxc
    obtain ⟨b1, b2⟩ := hs.cells y c hy hyc
    exact I.one x y c a1 b1 a2 b2
  · intro x hx e
    obtain ⟨a1, a2⟩ := hs.cells x _ hx e
    rw [hs.loc] at a2
    exact f.s (.inr ⟨x, a1, a2⟩)
  · intro a o ha p
    rcases sl a ha with rfl | ha
    · exact f.p o p
    · exact I.offP a o ha p
  · intro a o ha q
    rcases within_any q with r | ⟨_, hns, _⟩
    · rcases sl a ha with rfl | ha
      · exact f.r o r
      · exact I.offR a o ha r
    · exact hns ha
  · intro a ha hd
    rcases sl a ha with rfl | ha
    · exact f.d hd
    · exact I.offD a ha hd
  · intro a o hd q
    rcases within_any q with r | ⟨hs', _, e⟩
    · exact I.dR a o hd r
    · exact I.offD a hs' hd

theorem Inv.outer {C : Addr} (I : Inv g R P δ env ρ σ h) (hs : Shares env cenv C ρc ρ) (hC : h.get? C = none) (le : ∀ b o, P b o → P' b o) (pr : δ <+: δ') (J : Inv g (within R env cenv h) P' δ' cenv ρc σ' h') : Inv g R P' δ' env ρ σ' h' := by
  have f := I.free hC
  have hLn : ¬ slot cenv env.locals := by
    rintro (e | ⟨x, hx, hc⟩)
    · exact f.s (.inl (by rw [← hs.loc]; exact e.symm))
    · obtain ⟨a1, a2⟩ := hs.cells x _ hx hc
      exact I.nloc x a1 a2
  have keepS : ∀ b o, slot env b → ¬ slot cenv b → h.get? b = some o → ∃ sl, h'.get? b = some { o with slots := sl } := fun b o a b' e => J.keepU b o (.inr ⟨a, b', e⟩)
  refine
  { keepR := J.keepR, keepU := fun b o r => J.keepU b o (.inl r), part := I.part, keepP := J.keepP, base := I.base, sep := fun b o o' x y => J.sep b o o' x (any_within y), loc := ?_, cel := ?_, one := I.one, nloc := I.nloc, offP := ?_, offR := I.offR, offD := ?_, dP := J.dP, dR := fun a o x r => J.dR a o x (any_within r), dN := J.dN, len := J.len, objs := J.objs }
  · obtain ⟨m, ⟨o, es, ep, ho, r⟩, hm⟩ := I.loc
    obtain ⟨sl, hsl⟩ := keepS _ _ (.inl rfl) hLn ho
    refine ⟨m, ⟨_, es, ep, hsl, r⟩, fun x y e => ?_⟩
    obtain ⟨v, hv, hl⟩ := hm x y e
    rcases hl with l | ⟨h1, c, h2, o', ho', hd⟩ | ⟨h1, c, o', h2, r', hd⟩
    · exact ⟨v, hv.mono le pr, .inl l⟩
    · by_cases hq : slot cenv c
      · rcases hq with e' | ⟨x', hx', hc'⟩
        · exact absurd (.inr ⟨x, h1, by rw [h2, e', hs.loc]⟩) f.s
        · obtain ⟨a1, a2⟩ := hs.cells x' c hx' hc'
          have := I.one x x' c h1 a1 h2 a2
          subst this
          obtain ⟨m', _, hm'⟩ := J.loc
          obtain ⟨v', hv', hl'⟩ := hm' x y (hs.all x y hx' e)
          refine ⟨v', hv', .inr (.inl ⟨h1, c, h2, ?_⟩)⟩
          rcases hl' with ⟨l, _⟩ | ⟨_, c'', hc'', r''⟩ | ⟨l, _⟩
          · rw [hx'] at l; cases l
          · rw [hc'] at hc''; cases hc''; exact r''
          · rw [hx'] at l; cases l
      · obtain ⟨sl, hsl⟩ := keepS _ _ (.inr ⟨x, h1, h2⟩) hq ho'
        exact ⟨v, hv.mono le pr, .inr (.inl ⟨h1, c, h2, _, hsl, hd⟩)⟩
    · exact ⟨v, hv.mono le pr, .inr (.inr ⟨h1, c, o', h2, r', hd⟩)⟩
  · intro x hx
    obtain ⟨c, ov, hc, o, ho, hd⟩ := I.cel x hx
    by_cases hq : slot cenv c
    · rcases hq with e' | ⟨x', hx', hc'⟩
      · exact absurd (.inr ⟨x, hx, by rw [hc, e', hs.loc]⟩) f.s
      · obtain ⟨c', ov', e, r⟩ := J.cel x' hx'
        rw [hc'] at e; cases e
        exact ⟨c, ov', hc, r⟩
    · obtain ⟨sl, hsl⟩ := keepS _ _ (.inr ⟨x, hx, hc⟩) hq ho
      exact ⟨c, ov, hc, _, hsl, hd⟩
  · intro a o ha p
    by_cases hq : slot cenv a
    · exact J.offP a o hq p
    · obtain ⟨q, hq'⟩ := I.slot_lt ha
      obtain ⟨z, hz⟩ := J.sep a o q p (.inr (.inr ⟨ha, hq, hq'⟩))
      exact I.offR _ _ ha (.inl (I.base _ _ hz))
  · intro a ha hd
    by_cases hq : slot cenv a
    · exact J.offD a hq hd
    · obtain ⟨q, hq'⟩ := I.slot_lt ha
      exact J.dR a q hd (.inr (.inr ⟨ha, hq, hq'⟩))
end
end Mine
end
section
open PySem PySem.W PyProof.Rows PySem.Calls PySem.SeqAt
set_option Elab.async false
set_option linter.unusedVariables false
set_option maxRecDepth 100000
namespace Mine
/-- a set of truth values -/
noncomputable def esB (f t : Bool) : Array (Int × Value) := match f, t with
  | false, false => #[]
  | true, false => #[(0, .bool false)]
  | false, true => #[(1, .bool true)]
  | true, true => #[(0, .bool false), (1, .bool true)]
noncomputable def tbB (led f t : Bool) : SetTable := { SetTable.fresh 0 0 led with place := match f, t with
  | false, false => #[]
  | true, false => #[0]
  | false, true => #[1]
  | true, true => #[0, 1] }
noncomputable def setO (led f t : Bool) (ep : Nat) : Obj := { cls := .type "set", dict := none, data := .set (esB f t) ep (tbB led f t) }
noncomputable def hashB (b : Bool) : Int := if b then 1 else 0
theorem slot_bool_hash : Slot "bool" "__hash__" "int.__hash__" :=
  .of (owner := "int") (n := "__hash__") (by rw [typeLookup_type, builtinLookup_eq_fast]; kernel_rfl) (by decide +kernel) (by decide +kernel) (by decide +kernel)
    (by first | exact .inl (by decide +kernel) | exact .inr (by decide +kernel)) (by rw [isSubtype_type]; kernel_rfl)
theorem args_bool_hash (b : Bool) : argsOk "int.__hash__" ⟨[.bool b], []⟩ := by unfold argsOk; kernel_rfl
section
variable {prog : Program} {w : World} {A : Around} {E : Value → Shared → Prop} {s : Shared}
theorem typeIs_bool (s : Shared) (b : Bool) : s.TypeIs (.bool b) "bool" := rfl
theorem wpAny_pyHash_bool {b : Bool} {Q : Int → Shared → Prop} (h : Q (hashB b) { s with toks := s.toks + 1 }) :
    wpAny (model prog w) A (pyHash (.bool b)) Q E s := by
  unfold pyHash
  have hv : [Value.bool b].any Value.onHeap = false := rfl
  refine wpAny_bind ?_
  rw [cRoomFor, if_neg (by rw [hv]; exact Bool.false_ne_true)]; refine wpAny_pure ?_
  refine wpAny_bind (wpAny_specialOf (typeIs_bool s b) slot_bool_hash.lookup ?_)
  show wpAny _ _ (if (some (Value.builtin "int.__hash__") == some Value.none) = true then _ else _) Q E s
  rw [if_neg (by rw [beq_builtin_none]; exact Bool.false_ne_true)]
  refine wpAny_bind (wpAny_specialOf (typeIs_bool s b) slot_bool_hash.lookup ?_)
  show wpAny _ _ (callSpecialIfBoundUnlessNone? (.bool b) "__hash__" _ >>= _) Q E s
  refine wpAny_bind (wpAny_callSpecialIfBoundUnlessNone?_slot (typeIs_bool s b) slot_bool_hash
    (wpAny_call_entry slot_bool_hash (typeIs_bool s b) entry_int_hash
      (show wpAny _ _ (do ret (← mkInt (rawHash (if b then 1 else 0)))) _ _ s from wpAny_ret_mkInt ?_) (args_bool_hash _)))
  cases b
  · exact wpAny_pure h
  · exact wpAny_pure h
theorem eqBool_same {b : Bool} {Q : Bool → Shared → Prop} (h : Q true s) : wpAny (model prog w) A (eqBool (.bool b) (.bool b)) Q E s := by
  unfold eqBool
  have hv : (Value.bool b == Value.bool b) = true := beq_self_eq_true _
  show wpAny _ _ (if (Value.bool b == Value.bool b) = true then _ else _) Q E s
  rw [if_pos hv]
  exact wpAny_bind (wpAny_rule (wpAny_pure h))
theorem fits_setO (led f t : Bool) : (tbB led f t).fits (esB f t).size = true := by cases f <;> cases t <;> cases led <;> rfl
theorem byScan_setO (b f t : Bool) : byScan (.bool b) (esB f t) = true := by revert b f t; decide +kernel
theorem layNew_setO (led f t b : Bool) (h : (if b then t else f) = false) : layNew (tbB led f t) (esB f t) (hashB b) (.bool b) = (esB (f || !b) (t || b), tbB led (f || !b) (t || b), false, false) := by
  cases f <;> cases t <;> cases b <;> first | cases h; done | (cases led <;> rfl) | exact absurd h (by decide)
theorem update_eq {h : Heap} {a : Addr} {o o' : Obj} (g : Obj → Obj) (ho : h.get? a = some o) (hg : g o = o') (hf : o'.isFreed = false) : (h.update a g).get? a = some o' := by
  subst hg; exact Heap.get?_update_self g ho hf
theorem scan_head {D : Addr} {o : Obj} {es : Array (Int × Value)} {ep : Nat} {t : SetTable} {b : Bool} {hb : Int} {rest : List (Int × Value)} {i : Nat} {Q : ScanMet → Shared → Prop} (ho : s.heap.get? D = some o) (hd : o.data = .set es ep t) (hf : t.fits es.size = true)
    (h : Q (.found i) s) : wpAny (model prog w) A (setScanFrom D (.bool b) hb true ((hb, .bool b) :: rest) i) Q E s := by
  unfold setScanFrom
  rw [if_pos (by simp)]
  refine wpAny_bind (wpAny_setEpoch_of ho hd hf ?_)
  refine wpAny_bind (eqBool_same ?_)
  exact wpAny_pure h
theorem scan_hit {D : Addr} {led f t : Bool} {ep : Nat} {b : Bool} {Q : ScanMet → Shared → Prop} (ho : s.heap.get? D = some (setO led f t ep)) (hin : (if b then t else f) = true) (h : ∀ i, Q (.found i) s) :
    wpAny (model prog w) A (setScanFrom D (.bool b) (hashB b) true (esB f t).toList 0) Q E s := by
  have hf := fits_setO led f t
  cases b with
  | false =>
    have : f = true := hin
    subst this
    have hl : ∃ r, (esB true t).toList = (hashB false, .bool false) :: r := by cases t <;> exact ⟨_, rfl⟩
    obtain ⟨r, hl⟩ := hl
    rw [hl]
    exact scan_head ho rfl hf (h 0)
  | true =>
    have : t = true := hin
    subst this
    cases f with
    | false => exact scan_head (rest := []) ho rfl hf (h 0)
    | true =>
      show wpAny _ _ (setScanFrom D (.bool true) (hashB true) true [(0, .bool false), (1, .bool true)] 0) _ _ _
      unfold setScanFrom
      rw [if_neg (by decide)]
      exact scan_head (rest := []) ho rfl hf (h 1)
/-- a truth value is added -/
theorem setAdd_bool {D : Addr} {led f t : Bool} {ep : Nat} {b : Bool} {Q : Bool → Shared → Prop} (ho : s.heap.get? D = some (setO led f t ep))
    (h : ∀ h' ep' r, Heap.SameBut D s.heap h' → h'.get? D = some (setO led (f || !b) (t || b) ep') → Q r { s with heap := h' }) :
    wpAny (model prog w) A (setAddHashed D (.bool b) (hashB b)) Q E s := by
  have hf := fits_setO led f t
  unfold setAddHashed setAddHashedIn
  refine wpAny_holding (wpAny_bind (wpAny_setState_of ho rfl hf ?_))
  dsimp only
  rw [byScan_setO]
  simp only [↓reduceIte]
  unfold setAddByScan
  refine wpAny_bind ?_
  refine wpAny_bind (wpAny_rule ?_)
  by_cases hin : (if b then t else f) = true
  · -- it is there already
    have stay : ∀ r, Q r s := fun r => by
      have := h s.heap ep r (Heap.SameBut.refl D s.heap) (by
        have : (f || !b) = f ∧ (t || b) = t := by cases b <;> simp_all
        rw [this.1, this.2]; exact ho)
      exact this
    refine wpAny_bind (m := setScan D (.bool b) (hashB b) true (esB f t)) ?_
    show wpAny _ _ (setScanFrom D (.bool b) (hashB b) true (esB f t).toList 0) _ _ s
    exact scan_hit ho hin fun i => wpAny_pure (wpAny_pure (stay _))
  · have hin' : (if b then t else f) = false := by simpa using hin
    refine wpAny_bind (m := setScan D (.bool b) (hashB b) true (esB f t)) ?_
    show wpAny _ _ (setScanFrom D (.bool b) (hashB b) true (esB f t).toList 0) _ _ s
    have hscan : setScanFrom D (.bool b) (hashB b) true (esB f t).toList 0 = pure .absent := by
      cases b <;> cases f <;> cases t <;> first | exact absurd hin' (by decide) | rfl
    rw [hscan]
    refine wpAny_pure ?_
    dsimp only
    rw [layNew_setO led f t b hin']
    dsimp only
    refine wpAny_bind (wpAny_of_eq (a := ()) rfl ?_)
    rw [if_pos (by cases f <;> cases t <;> cases b <;> rfl)]
    have hbv : hashByValue 8 (.bool b) = pure true := rfl
    rw [hbv]
    refine wpAny_bind ?_
    refine wpAny_pure ?_
    simp only [↓reduceIte]
    refine wpAny_bind (wpAny_storeSet_of ho rfl ?_ (by rw [sizeLine_eq]; cases f <;> cases t <;> cases b <;> decide))
    have hfull : (!false && (tbB led (f || !b) (t || b)).tooFull) = false := by cases f <;> cases t <;> cases b <;> rfl
    rw [hfull]
    simp only [Bool.false_eq_true, if_false]
    refine wpAny_pure (wpAny_pure (h _ (ep + 1) true (Heap.SameBut.update ..) (update_eq _ ho ?_ rfl)))
    exact putSet_of _ _ rfl
theorem typeIs_set {D : Addr} {led f t : Bool} {ep : Nat} (ho : s.heap.get? D = some (setO led f t ep)) : s.TypeIs (.ref D) "set" := ⟨_, ho, rfl⟩
theorem call_add_bool {D : Addr} {led f t : Bool} {ep : Nat} {b : Bool} {Q : Value → Shared → Prop} (ho : s.heap.get? D = some (setO led f t ep))
    (h : ∀ h' ep', Heap.SameBut D s.heap h' → h'.get? D = some (setO led (f || !b) (t || b) ep') → Q .none { s with heap := h', toks := s.toks + 1 }) :
    wpAny (model prog w) A (call (.builtin "set.add") [.ref D, .bool b]) Q E s := by
  refine wpAny_call_entry F.slot_set_add (typeIs_set ho) F.entry_set_add ?_ (F.args_set_add_2 _ _)
  unfold Builtin.«set.add» Builtin.Frozenset.oneOther
  simp only [List.isEmpty_nil, bind_assoc]
  unfold Builtin.Frozenset.addrOf setAdd
  refine wpAny_bind (wpAny_pure ?_)
  try dsimp only
  refine wpAny_bind (wpAny_pure ?_)
  try dsimp only
  refine wpAny_bind ?_
  refine wpAny_holding ?_
  refine wpAny_bind (wpAny_pyHash_bool ?_)
  refine setAdd_bool (s := { s with toks := s.toks + 1 }) ho fun h' ep' r hsb hS' => ?_
  show wpAny _ _ (ret Value.none) _ _ _
  exact wpAny_pure ⟨_, rfl, h h' ep' hsb hS'⟩
theorem newSet_bool {Q : Value → Shared → Prop}
    (h : Q (.ref s.heap.objs.size) { s with heap := s.heap.push (setO (!w.params.followText "set-order") false false 0) }) :
    wpAny (model prog w) A (newSet (.type "set")) Q E s := by
  unfold newSet setsByText
  refine wpAny_bind (wpAny_bind (wpAny_askSetting (wpAny_pure ?_)))
  dsimp only
  simp only [newObj]
  exact wpAny_bind (wpAny_alloc (wpAny_pure h))
end
theorem slot_set_iter : Slot "set" "__iter__" "set.__iter__" :=
  .of (owner := "set") (n := "__iter__") (by rw [typeLookup_type, builtinLookup_eq_fast]; kernel_rfl) (by decide +kernel) (by decide +kernel) (by decide +kernel)
    (by first | exact .inl (by decide +kernel) | exact .inr (by decide +kernel)) (by rw [isSubtype_type]; kernel_rfl)
theorem slot_seti_next : Slot "set_iterator" "__next__" "set_iterator.__next__" :=
  .of (owner := "set_iterator") (n := "__next__") (by rw [typeLookup_type, builtinLookup_eq_fast]; kernel_rfl) (by decide +kernel) (by decide +kernel) (by decide +kernel)
    (by first | exact .inl (by decide +kernel) | exact .inr (by decide +kernel)) (by rw [isSubtype_type]; kernel_rfl)
theorem entry_set_iter : entryFor table "set.__iter__" = some Builtin.«frozenset.__iter__» :=
  entryFor_alias (id' := "frozenset.__iter__") (by rw [fastTable_eq_tree]; kernel_rfl) rfl (by decide +kernel) (by rw [fastTable_eq_tree]; kernel_rfl)
theorem entry_seti_next : entryFor table "set_iterator.__next__" = some Builtin.«set_iterator.__next__» := entryFor_of_tree (by kernel_rfl)
theorem args_set_iter (a : Value) : argsOk "set.__iter__" ⟨[a], []⟩ := by unfold argsOk; kernel_rfl
theorem args_seti_next (a : Value) : argsOk "set_iterator.__next__" ⟨[a], []⟩ := by unfold argsOk; kernel_rfl
section
variable {prog : Program} {w : World} {A : Around} {E : Value → Shared → Prop} {s : Shared}
noncomputable def byText (w : World) : Bool := w.params.followText "set-order"
noncomputable def setIt (D : Addr) (sl i n ep : Nat) : Obj := { cls := .type "set_iterator", dict := none, data := .fields #[rawInt sl, rawInt i, .ref D, rawInt n, rawInt ep] }
theorem pyIter_set {D : Addr} {f t : Bool} {ep : Nat} {Q : Value → Shared → Prop} (ho : s.heap.get? D = some (setO (!byText w) f t ep))
    (h : Q (.ref s.heap.objs.size) { s with heap := s.heap.push (setIt D 0 0 (esB f t).size ep) }) : wpAny (model prog w) A (pyIter (.ref D)) Q E s := by
  have hT := typeIs_set ho
  have hf := fits_setO (!byText w) f t
  refine wpAny_pyIter_slot hT slot_set_iter (wpAny_call_entry slot_set_iter hT entry_set_iter ?_ (args_set_iter _))
  unfold Builtin.«frozenset.__iter__» Builtin.Frozenset.slot0
  show wpAny _ _ (Builtin.Frozenset.addrOf (.ref D) >>= _) _ _ s
  unfold Builtin.Frozenset.addrOf
  refine wpAny_bind (wpAny_pure ?_)
  unfold Builtin.Frozenset.sizeOf
  refine wpAny_bind (wpAny_bind (wpAny_setEntries_of ho rfl hf (wpAny_pure ?_)))
  unfold setDrawn setsByText
  refine wpAny_bind (wpAny_bind (wpAny_setState_of ho rfl hf ?_))
  refine wpAny_bind (wpAny_bind (wpAny_askSetting (wpAny_pure ?_)))
  refine wpAny_pure ?_
  dsimp only
  have hpl : (tbB (!byText w) f t).plain = true := rfl
  rw [if_neg (by show ¬ ((!byText w && (!(tbB (!byText w) f t).plain && _)) = true); rw [hpl]; simp)]
  refine wpAny_bind (wpAny_pure ?_)
  unfold setEpoch
  refine wpAny_bind (wpAny_bind (wpAny_setState_of ho rfl hf (wpAny_pure ?_)))
  unfold newFields
  refine wpAny_bind (wpAny_newObj_type ?_ (by size_fits))
  exact wpAny_pure ⟨_, rfl, "set_iterator", _, ⟨_, Heap.get?_push_size _ rfl, rfl⟩, slot_seti_next.lookup, h⟩
noncomputable def nextB (w : World) (D : Addr) (f t : Bool) (ep sl gv : Nat) : Option (Value × Nat) :=
  if byText w then ((pickOrder (w.params.setOrder D ep) (esB f t))[gv]?).map fun e => (e.2, sl)
  else match (esB f t)[SetTable.below (tbB true f t).place sl]?, (tbB true f t).place[SetTable.below (tbB true f t).place sl]? with
    | some (_, x), some j => some (x, j + 1)
    | _, _ => none
theorem setNext_is {D : Addr} {f t : Bool} {ep sl gv : Nat} {Q : Option (Value × Nat) → Shared → Prop} (ho : s.heap.get? D = some (setO (!byText w) f t ep))
    (h : Q (nextB w D f t ep sl gv) s) : wpAny (model prog w) A (setNext D sl gv ep) Q E s := by
  have hf := fits_setO (!byText w) f t
  unfold setNext
  refine wpAny_bind (wpAny_setState_of ho rfl hf ?_)
  unfold setsByText
  refine wpAny_bind (wpAny_bind (wpAny_askSetting (wpAny_pure ?_)))
  dsimp only
  unfold nextB at h
  by_cases hb : byText w = true
  · have hb' : w.params.followText "set-order" = true := hb
    rw [if_pos hb] at h
    rw [if_pos (show (model prog w).w.params.followText "set-order" = true from hb'), if_neg (by simp)]
    unfold setWalk setsByText
    refine wpAny_bind (wpAny_bind (wpAny_setState_of ho rfl hf ?_))
    refine wpAny_bind (wpAny_bind (wpAny_askSetting (wpAny_pure ?_)))
    rw [if_pos (show (model prog w).w.params.followText "set-order" = true from hb')]
    refine wpAny_bind (wpAny_askSetting (wpAny_pure ?_))
    exact wpAny_pure h
  · have hb2 : byText w = false := by simpa using hb
    have hb' : w.params.followText "set-order" = false := hb2
    rw [if_neg hb] at h
    rw [if_neg (show ¬ (model prog w).w.params.followText "set-order" = true by rw [show (model prog w).w.params.followText "set-order" = false from hb']; simp)]
    have hpl : (tbB (!byText w) f t).plain = true := rfl
    have hld : (tbB (!byText w) f t).led = true := by show (!byText w) = true; rw [hb2]; rfl
    rw [if_neg (by show ¬ ((!(tbB (!byText w) f t).plain && _) = true); rw [hpl]; simp)]
    refine wpAny_bind ?_
    show wpAny _ _ (if (!(tbB (!byText w) f t).led && _) = true then _ else pure ()) _ _ s
    rw [if_neg (by rw [hld]; simp)]
    refine wpAny_pure (wpAny_pure ?_)
    exact h
theorem next_one (w : World) (D : Addr) (b : Bool) (ep : Nat) : ∃ nx, nextB w D (!b) b ep 0 0 = some (.bool b, nx) ∧ nextB w D (!b) b ep nx 1 = none := by
  unfold nextB
  by_cases hb : byText w = true
  · rw [if_pos hb]
    refine ⟨0, ?_, ?_⟩
    · have : pickOrder (w.params.setOrder D ep) (esB (!b) b) = esB (!b) b := by
        cases b <;> (unfold pickOrder esB; simp [pickOrder.go, Nat.mod_one])
      rw [this]
      cases b <;> rfl
    · rw [if_pos hb]
      have : pickOrder (w.params.setOrder D ep) (esB (!b) b) = esB (!b) b := by
        cases b <;> (unfold pickOrder esB; simp [pickOrder.go, Nat.mod_one])
      rw [this]
      cases b <;> rfl
  · rw [if_neg hb]
    cases b
    · exact ⟨1, rfl, by rw [if_neg hb]; rfl⟩
    · exact ⟨2, rfl, by rw [if_neg hb]; rfl⟩
theorem next_two (w : World) (D : Addr) (ep : Nat) : ∃ b nx x, nextB w D true true ep 0 0 = some (.bool b, nx) ∧ nextB w D true true ep nx 1 = some x := by
  unfold nextB
  by_cases hb : byText w = true
  · rw [if_pos hb]
    have : ∃ b c, pickOrder (w.params.setOrder D ep) (esB true true) = #[(hashB b, .bool b), (hashB c, .bool c)] := by
      unfold pickOrder esB
      have h2 : w.params.setOrder D ep 0 % 2 = 0 ∨ w.params.setOrder D ep 0 % 2 = 1 := by omega
      rcases h2 with h2 | h2
      · exact ⟨false, true, by simp [pickOrder.go, h2, hashB, Nat.mod_one]⟩
      · exact ⟨true, false, by simp [pickOrder.go, h2, hashB, Nat.mod_one]⟩
    obtain ⟨b, c, e⟩ := this
    rw [e]
    exact ⟨b, 0, _, rfl, by rw [if_pos hb]; rfl⟩
  · rw [if_neg hb]
    exact ⟨false, 1, _, rfl, by rw [if_neg hb]; rfl⟩
/-- the iterator hands on an item -/
theorem pyNext_set_item {D It : Addr} {f t : Bool} {ep sl gv nx : Nat} {v : Value} {Q : Option Value → Shared → Prop} (ho : s.heap.get? D = some (setO (!byText w) f t ep)) (hi : s.heap.get? It = some (setIt D sl gv (esB f t).size ep))
    (hx : nextB w D f t ep sl gv = some (v, nx)) (h : ∀ h', Heap.SameBut It s.heap h' → h'.get? It = some (setIt D nx (gv + 1) (esB f t).size ep) → Q (some v) { s with heap := h' }) : wpAny (model prog w) A (pyNext (.ref It)) Q E s := by
  have hT : s.TypeIs (.ref It) "set_iterator" := ⟨_, hi, rfl⟩
  have hf := fits_setO (!byText w) f t
  unfold pyNext
  refine wpAny_bind (wpAny_attempt (wpAny_callSpecial?_slot (name := Str.ofString "__next__") hT slot_seti_next (wpAny_call_entry slot_seti_next hT entry_seti_next ?_ (args_seti_next _))))
  show wpAny _ _ (fieldsOf (.ref It) >>= _) _ _ s
  refine wpAny_bind (wpAny_fieldsOf hi rfl ?_)
  show wpAny _ _ (setEntries D >>= _) _ _ s
  refine wpAny_bind (wpAny_setEntries_of ho rfl hf ?_)
  rw [if_neg (by simp)]
  show wpAny _ _ (setNext D (Int.toNat sl) (Int.toNat gv) (Int.toNat ep) >>= _) _ _ s
  simp only [Int.toNat_natCast]
  refine wpAny_bind (setNext_is ho ?_)
  rw [hx]
  dsimp only
  refine wpAny_bind (wpAny_setField hi rfl (by simp) ?_)
  have h1 := update_eq (Obj.mapFields (·.setIfInBounds 0 (rawInt (nx : Int)))) hi (o' := { cls := .type "set_iterator", dict := none, data := .fields #[rawInt nx, rawInt gv, .ref D, rawInt (esB f t).size, rawInt ep] }) rfl rfl
  refine wpAny_bind (wpAny_setField h1 rfl (by simp) ?_)
  have h2 := update_eq (Obj.mapFields (·.setIfInBounds 1 (rawInt ((gv : Int) + 1)))) h1 (o' := setIt D nx (gv + 1) (esB f t).size ep) rfl rfl
  exact wpAny_pure ⟨_, rfl, wpAny_pure (h _ ((Heap.SameBut.update ..).trans (Heap.SameBut.update ..)) h2)⟩
/-- the iterator is at its end -/
theorem pyNext_set_end {D It : Addr} {f t : Bool} {ep sl gv : Nat} {Q : Option Value → Shared → Prop} (hh : A.handled = none) (ho : s.heap.get? D = some (setO (!byText w) f t ep)) (hi : s.heap.get? It = some (setIt D sl gv (esB f t).size ep))
    (hx : nextB w D f t ep sl gv = none) (h : ∀ h', Heap.ExtBut It s.heap h' → Q none { s with heap := h' }) : wpAny (model prog w) A (pyNext (.ref It)) Q E s := by
  have hT : s.TypeIs (.ref It) "set_iterator" := ⟨_, hi, rfl⟩
  have hf := fits_setO (!byText w) f t
  unfold pyNext
  refine wpAny_bind (wpAny_attempt (wpAny_callSpecial?_slot (name := Str.ofString "__next__") hT slot_seti_next (wpAny_call_entry slot_seti_next hT entry_seti_next ?_ (args_seti_next _))))
  show wpAny _ _ (fieldsOf (.ref It) >>= _) _ _ s
  refine wpAny_bind (wpAny_fieldsOf hi rfl ?_)
  show wpAny _ _ (setEntries D >>= _) _ _ s
  refine wpAny_bind (wpAny_setEntries_of ho rfl hf ?_)
  rw [if_neg (by simp)]
  show wpAny _ _ (setNext D (Int.toNat sl) (Int.toNat gv) (Int.toNat ep) >>= _) _ _ s
  simp only [Int.toNat_natCast]
  refine wpAny_bind (setNext_is ho ?_)
  rw [hx]
  dsimp only
  refine wpAny_bind (wpAny_setField hi rfl (by simp) ?_)
  show wpAny _ _ (newExc (.type "StopIteration") [] >>= _) _ _ _
  refine wpAny_bind ?_
  simp only [newExc, newTuple]
  refine wpAny_bind (wpAny_newObj_type ?_ (by size_fits))
  refine wpAny_bind (m := firstArgMember _ _) (wpAny_of_eq (a := Value.none) (by first | rfl | (simp only [firstArgMember]; rfl)) ?_)
  refine wpAny_newObj_type ?_ (by size_fits)
  simp only [raiseNew]
  refine wpAny_bind (wpAny_handled ?_)
  first | rw [show A.in1.handled = none from hh] | rw [hh]
  refine wpAny_bind (wpAny_pure (wpAny_throw ?_))
  refine wpAny_bind (wpAny_isInstance (T := "StopIteration") (b := true) ⟨_, Heap.get?_push_size _ rfl, rfl⟩ isSubtype_stop ?_)
  simp only [if_true]
  exact wpAny_pure (h _ (((Heap.SameBut.update ..).extBut.push _).push _))
end
end Mine
end
section
open PySem PySem.W PyProof.Rows PySem.Calls PySem.SeqAt
set_option Elab.async false
set_option linter.unusedVariables false
set_option maxRecDepth 100000
namespace Mine

/-- the names that a comprehension takes from its function -/
noncomputable def capt (scope sc : Scope) (ρ : Loc) : Loc := ρ.filter fun p => (relab scope sc).names.lookup p.1 == some .cell
theorem lookup_filter {q : Str → Bool} {x : Str} : ∀ (ρ : Loc), (ρ.filter fun p => q p.1).lookup x = if q x then ρ.lookup x else none
  | [] => by simp
  | (y, v) :: r => by
    have ih := lookup_filter (q := q) (x := x) r
    rw [List.filter_cons]
    by_cases hxy : x = y
    · subst hxy
      by_cases hq : q x = true
      · simp [hq]
      · simp only [hq, if_false] at ih ⊢
        simpa using ih
    · have hb : (x == y) = false := by simpa using hxy
      split
      · rw [List.lookup_cons, List.lookup_cons, hb]; exact ih
      · rw [List.lookup_cons, hb]; exact ih
theorem capt_lookup {scope sc : Scope} {ρ : Loc} {x : Str} (h : (relab scope sc).names.lookup x = some .cell) : (capt scope sc ρ).lookup x = ρ.lookup x := by
  unfold capt
  rw [lookup_filter (q := fun x => (relab scope sc).names.lookup x == some .cell)]
  simp [h]

theorem lookup_relab {f : Str × NameKind → Bool} {x : Str} : ∀ {l : List (Str × NameKind)}, (∀ y ∈ l, y.2 ≠ .cell) → (l.map fun (n, k) => if (k == .free && f (n, k)) then (n, NameKind.cell) else (n, k)).lookup x = some .cell → (x, NameKind.free) ∈ l ∧ f (x, .free) = true
  | [], _, h => by simp at h
  | (n, k) :: r, hc, h => by
    simp only [List.map_cons] at h
    by_cases hx : x = n
    · subst hx
      by_cases hk : (k == NameKind.free && f (x, k)) = true
      · obtain ⟨a, b⟩ := Bool.and_eq_true_iff.mp hk
        have : k = .free := by simpa using a
        subst this
        exact ⟨List.mem_cons_self, b⟩
      · rw [if_neg hk] at h
        simp at h
        exact absurd h (hc _ List.mem_cons_self)
    · have hb : (x == n) = false := by simpa using hx
      have h' : (r.map fun (n, k) => if (k == .free && f (n, k)) then (n, NameKind.cell) else (n, k)).lookup x = some .cell := by
        by_cases hk : (k == NameKind.free && f (n, k)) = true
        · rw [if_pos hk, List.lookup_cons, hb] at h; exact h
        · rw [if_neg hk, List.lookup_cons, hb] at h; exact h
      obtain ⟨a, b⟩ := lookup_relab (fun y hy => hc y (List.mem_cons_of_mem _ hy)) h'
      exact ⟨List.mem_cons_of_mem _ a, b⟩

noncomputable def Tst (g : Glo) (sc : Scope) (n : Nat) (ifs : List Expr) (ρ : Loc) (σ : List MO) (b : Bool) : Prop :=
  Run g sc n (fun env => forIn ifs true fun c r => if r = true then do let ok ← isTrue c env (eval c env); pure (ForInStep.yield ok) else pure (ForInStep.yield r)) ρ σ (fun _ _ r => r = b) σ

section
variable {g : Glo} {R : RS} {P P' : PS} {δ δ' : List Addr} {env cenv : Env} {ρ ρ' ρc ρ₁ ρ₂ : Loc} {σ σ' σ₁ σ₂ σ₃ : List MO} {h h' : Heap} {sc : Scope} {n : Nat} {Φ : Out → Prop} {rest : List Stmt}

theorem tst_nil : Tst g sc n [] ρ σ true := .mk fun env A R P δ s Q O hA I h => by
  show wpAny _ A (forIn [] true _) Q NoE s
  rw [List.forIn_nil]
  exact wpAny_pure (stay s.toks I h rfl)
theorem tst_one {c : Expr} {b : Bool} (h1 : EvB g sc n c ρ σ b σ) : Tst g sc n [c] ρ σ b := .mk fun env A R P δ s Q O hA I h => by
  show wpAny _ A (forIn [c] true _) Q NoE s
  rw [List.forIn_cons]
  simp only [if_true]
  refine wpAny_bind (wpAny_bind (h1.run env A R P δ s _ O hA I fun r P₁ δ₁ hh₁ tk₁ le₁ pr₁ I₁ e => wpAny_pure ?_))
  simp only [List.forIn_nil]
  exact wpAny_pure (h r P₁ δ₁ hh₁ tk₁ le₁ pr₁ I₁ e)

/-- the two kinds of comprehensions -/
inductive CK where
  | l | s
noncomputable def CK.ex (k : CK) (elt target iter : Expr) (ifs : List Expr) (scope : Scope) (pos : Pos) : Expr := match k with
  | .l => .ListComp elt [⟨target, iter, ifs, 0⟩] scope pos
  | .s => .SetComp elt [⟨target, iter, ifs, 0⟩] scope pos
noncomputable def CK.put : CK → String
  | .l => "list.append"
  | .s => "set.add"
noncomputable def CK.mk : CK → Sem Value
  | .l => newList []
  | .s => newSet (.type "set")
/-- what a comprehension's object holds -/
noncomputable def CK.has (k : CK) (w : World) (h : Heap) (D : Addr) (ys : List Value) : Prop := match k with
  | .l => h.PlainList D ys.toArray
  | .s => ∃ (bs : List Bool) (ep : Nat), ys = bs.map Value.bool ∧ h.get? D = some (setO (!byText w) (bs.contains false) (bs.contains true) ep)
/-- what may go into it -/
noncomputable def CK.may (k : CK) (x : V) : Prop := match k with
  | .l => True
  | .s => ∃ b, x = .bool b
theorem compTurn_set (elt target iter : Expr) (ifs : List Expr) (scope : Scope) (pos : Pos) (it acc : Value) (env : Env) :
    compTurn (.SetComp elt [⟨target, iter, ifs, 0⟩] scope pos) 0 it acc env = (do
      standAt iter.pos
      match ← pyNext it with
      | none => pure (.done .next)
      | some v =>
        letOwnedTupleGo target it v
        assign target env v
        let mut ok := true
        for c in ifs do
          if ok then ok ← isTrue c env (eval c env)
        if ok then
          (do let v ← eval elt env; standAt elt.pos; let _ ← call (.builtin "set.add") [acc, v])
        again (.compLoop (.SetComp elt [⟨target, iter, ifs, 0⟩] scope pos) 0 it acc env)) := by rfl
theorem codeAny_compLoop_any (ck : CK) {prog : Program} {w : World} {A : Around} {R : Result → Shared → Prop} {s : Shared} {elt target iter : Expr} {ifs : List Expr} {scope : Scope} {pos : Pos} {it acc : Value} {env : Env} (I : Nat → Shared → Prop)
    (turn : ∀ n s, I n s → wpAny (model prog w) A (pyNext it) (fun r s₁ => match r with
      | none => R (.ok .next) s₁
      | some v => wpAny (model prog w) A (letOwnedTupleGo target it v) (fun _ s₁' => wpAny (model prog w) A (assign target env v) (fun _ s₂ =>
          wpAny (model prog w) A (forIn ifs true fun c r => if r = true then do let ok ← isTrue c env (eval c env); pure (ForInStep.yield ok) else pure (ForInStep.yield r)) (fun ok s₃ =>
            if ok = true then wpAny (model prog w) A (eval elt env) (fun x s₄ =>
              wpAny (model prog w) A (call (.builtin ck.put) [acc, x]) (fun _ s₅ => ∃ m, m < n ∧ I m s₅) NoE s₄) NoE s₃
            else ∃ m, m < n ∧ I m s₃) NoE s₂) NoE s₁') NoE s₁) NoE s)
    (n : Nat) (h : I n s) : codeAny (model prog w) A (.compLoop (ck.ex elt target iter ifs scope pos) 0 it acc env) R s := by
  have no : ∀ {X : Value → Shared → Prop}, ∀ e s', NoE e s' → X e s' := fun _ _ x => x.elim
  cases ck with
  | l =>
    refine codeAny_loop rfl I (fun n s hI => ?_) n h
    show wpAny _ A ((compTurn (.ListComp elt [⟨target, iter, ifs, 0⟩] scope pos) 0 it acc env).onRaise (fun x => do noteFrame x env; theTreesLotGoes x)) _ _ s
    refine wpAny_noted ?_
    rw [compTurn_list]
    refine wpAny_bind (wpAny_standAt (wpAny_bind (wpAny_mono (turn n s hI) (fun r s₁ h₁ => ?_) no)))
    cases r with
    | none => exact wpAny_pure h₁
    | some v =>
      refine wpAny_bind (wpAny_mono h₁ (fun _ s₁' h₁ => ?_) no)
      refine wpAny_bind (wpAny_mono h₁ (fun _ s₂ h₂ => wpAny_bind (wpAny_mono h₂ (fun ok s₃ h₃ => ?_) no)) no)
      cases ok with
      | false => exact wpAny_pure ⟨rfl, h₃⟩
      | true =>
        exact wpAny_bind (wpAny_bind (wpAny_mono h₃ (fun x s₄ h₄ => wpAny_bind (wpAny_mono h₄ (fun _ s₅ h₅ => wpAny_pure (wpAny_pure ⟨rfl, h₅⟩)) no)) no))
  | s =>
    refine codeAny_loop rfl I (fun n s hI => ?_) n h
    show wpAny _ A ((compTurn (.SetComp elt [⟨target, iter, ifs, 0⟩] scope pos) 0 it acc env).onRaise (fun x => do noteFrame x env; theTreesLotGoes x)) _ _ s
    refine wpAny_noted ?_
    rw [compTurn_set]
    refine wpAny_bind (wpAny_standAt (wpAny_bind (wpAny_mono (turn n s hI) (fun r s₁ h₁ => ?_) no)))
    cases r with
    | none => exact wpAny_pure h₁
    | some v =>
      refine wpAny_bind (wpAny_mono h₁ (fun _ s₁' h₁ => ?_) no)
      refine wpAny_bind (wpAny_mono h₁ (fun _ s₂ h₂ => wpAny_bind (wpAny_mono h₂ (fun ok s₃ h₃ => ?_) no)) no)
      cases ok with
      | false => exact wpAny_pure ⟨rfl, h₃⟩
      | true =>
        exact wpAny_bind (wpAny_bind (wpAny_mono h₃ (fun x s₄ h₄ => wpAny_bind (wpAny_standAt (wpAny_bind (wpAny_mono h₄ (fun _ s₅ h₅ => wpAny_pure (wpAny_pure ⟨rfl, h₅⟩)) no)))) no))
theorem codeAny_compStart_ck (ck : CK) {prog : Program} {w : World} {A : Around} {R : Result → Shared → Prop} {s : Shared} {elt target iter : Expr} {ifs : List Expr} {scope : Scope} {pos : Pos} {it acc : Value} {env : Env}
    (h0 : codeAny (model prog w) A (.compLoop (ck.ex elt target iter ifs scope pos) 0 it acc env) R s)
    (h : wpAny (model prog w) A (pyIter it) (fun it' s' => codeAny (model prog w) A (.compLoop (ck.ex elt target iter ifs scope pos) 0 it' acc env) R s') (notedBy (model prog w) A env fun x s' => R (.error x) s') s) :
    codeAny (model prog w) A (.compStart (ck.ex elt target iter ifs scope pos) 0 it acc env) R s := by
  cases ck with
  | l => exact codeAny_compStart_list h0 h
  | s =>
    refine codeAny_of_tree ?_
    show wpAny _ _ ((compStart (.SetComp elt [⟨target, iter, ifs, 0⟩] scope pos) 0 it acc env).onRaise (fun x => do noteFrame x env; standAt theWindowsPlace)) _ _ s
    refine wpAny_notedAt ?_
    unfold compStart
    show wpAny _ _ (ask >>= _) _ _ s
    refine wpAny_bind (wpAny_askSetting (wpAny_ite ?_))
    split
    · first
        | exact wpAny_bind (wpAny_pure (wpAny_pure (And.intro rfl h0)))
        | exact wpAny_pure (And.intro rfl h0)
    · first
        | exact wpAny_bind (wpAny_rule (wpAny_bind (wpAny_standAt (wpAny_bind (wpAny_mono h (fun it' s' h' => wpAny_pure (And.intro rfl h')) fun _ _ x => x)))))
        | (refine wpAny_bind (wpAny_rule ?_); show wpAny _ _ (standAt iter.pos >>= _) _ _ s; exact wpAny_bind (wpAny_standAt (wpAny_bind (wpAny_mono h (fun it' s' h' => wpAny_pure (And.intro rfl h')) fun _ _ x => x))))

theorem CK.has_obj (ck : CK) {w : World} {h : Heap} {D : Addr} {ys : List Value} (x : ck.has w h D ys) : ∃ o, h.get? D = some o ∧ (∀ v, o.data ≠ .cell v) ∧ ∀ h' : Heap, h'.get? D = some o → ck.has w h' D ys := by
  cases ck with
  | l => obtain ⟨k, hk⟩ := x; exact ⟨_, hk, (fun v c => by cases c), fun h' e => ⟨k, e⟩⟩
  | s => obtain ⟨bs, ep, e1, hk⟩ := x; exact ⟨_, hk, (fun v c => by cases c), fun h' e => ⟨bs, ep, e1, e⟩⟩
theorem CK.add (ck : CK) {prog : Program} {w : World} {mg : Str → Option Value} {A : Around} {s : Shared} {D : Addr} {ys : List Value} {v : Value} {x : V} {Q : Value → Shared → Prop} (h : ck.has w s.heap D ys) (hv : Mine.Sees prog w mg P δ v x) (hx : ck.may x) (hz : ys.length ≤ 16777215)
    (hq : ∀ h' tk' r, Heap.SameBut D s.heap h' → ck.has w h' D (ys ++ [v]) → Q r { s with heap := h', toks := tk' }) : wpAny (model prog w) A (call (.builtin ck.put) [.ref D, v]) Q NoE s := by
  cases ck with
  | l =>
    obtain ⟨k, hk⟩ := h
    exact wpAny_list_append_plain ⟨k, hk⟩ (fun h₅ hp₅ hs₅ => hq h₅ s.toks _ hs₅ (by simpa [CK.has] using hp₅)) (by rw [sizeLine_eq]; simp; omega)
  | s =>
    obtain ⟨bs, ep, e1, hk⟩ := h
    obtain ⟨b, rfl⟩ := hx
    obtain rfl := hv.tells
    subst e1
    refine call_add_bool hk fun h' ep' hs he => hq h' _ _ hs ⟨bs ++ [b], ep', by simp, ?_⟩
    rw [he]
    congr 2 <;> (cases b <;> simp)
theorem Wkr.with {A : Around} {I : Addr} {wr : List Addr} {xs : List V} {tgt : Expr} {St : Nat → Heap → Prop} (W : Wkr g A P δ I wr xs tgt St) {D : Addr} {oD : Obj} (hD : D ∉ wr) (hc : ∀ v, oD.data ≠ .cell v) : Wkr g A P δ I (D :: wr) xs tgt (fun i h => St i h ∧ h.get? D = some oD) where
  live := fun i h st b hb => by
    rcases List.mem_cons.mp hb with rfl | hb
    · exact ⟨oD, st.2, hc⟩
    · exact W.live i h st.1 b hb
  frame := fun i h h' st hw hp hp' => ⟨W.frame i h h' st.1 (fun b hb => hw b (List.mem_cons_of_mem _ hb)) hp hp', hw D List.mem_cons_self _ st.2⟩
  item := fun i y s Q hy st hp hQ => W.item i y s Q hy st.1 hp fun v h' tk st' hv hk => hQ v h' tk ⟨st', hk D oD hD st.2⟩ hv fun b o hb e => hk b o (fun z => hb (List.mem_cons_of_mem _ z)) e
  self := fun i s Q st hQ => W.self i s Q st.1 hQ
  done := fun s Q st hp hQ => W.done s Q st.1 hp fun h' tk hk => hQ h' tk fun b o hb e => hk b o (fun z => hb (List.mem_cons_of_mem _ z)) e

/-- what a comprehension has gathered after i turns -/
noncomputable def outs (tst : Nat → Bool) (val : Nat → V) (i : Nat) : List V := ((List.range i).filter tst).map val
theorem outs_succ (tst : Nat → Bool) (val : Nat → V) (i : Nat) : outs tst val (i + 1) = if tst i then outs tst val i ++ [val i] else outs tst val i := by
  unfold outs
  rw [List.range_succ, List.filter_append, List.map_append]
  by_cases h : tst i = true
  · simp [h]
  · simp [h]
theorem outs_length (tst : Nat → Bool) (val : Nat → V) (i : Nat) : (outs tst val i).length ≤ i := by
  unfold outs
  rw [List.length_map]
  exact Nat.le_trans (List.length_filter_le _ _) (by simp)

/-- the state of a comprehension -/
noncomputable def LcI (ck : CK) (g : Glo) (R : RS) (cenv : Env) (D : Addr) (wr : List Addr) (St : Nat → Heap → Prop) (ρc : Loc) (σ : List MO) (tst : Nat → Bool) (val : Nat → V) (P₁ : PS) (δ₁ : List Addr) (N : Nat) (s : Shared) (m : Nat) (s' : Shared) : Prop :=
  ∃ P' δ' h' tk' i ys, s' = { s with heap := h', toks := tk' } ∧ (∀ b o, P₁ b o → P' b o) ∧ δ₁ <+: δ' ∧ Inv g R P' δ' cenv ρc σ h' ∧ (∀ b ∈ D :: wr, Free R P' δ' cenv b) ∧ St i h' ∧
    ck.has g.w h' D (ys : List Value) ∧ g.SeesL P' δ' ys (outs tst val i) ∧ i ≤ N ∧ m = N - i

theorem lc_loop (ck : CK) {A : Around} {P₁ : PS} {δ₁ : List Addr} {s : Shared} {It D : Addr} {wr : List Addr} {xs : List V} {tgt elt iter : Expr} {ifs : List Expr} {scope : Scope} {pos : Pos} {St : Nat → Heap → Prop} {Rr : Result → Shared → Prop} {sc' : Scope} (tst : Nat → Bool) (val : Nat → V)
    (O : EnvOk cenv sc') (hA : AOk A n R cenv) (W : Wkr g A P₁ δ₁ It wr xs tgt St) (hD : D ∉ wr) (hz : xs.length ≤ 16777215)
    (hturn : ∀ i y, xs[i]? = some y → ∃ ρ', Asg g sc' n tgt y ρc ρ' ∧ Sub ρc ρ' ∧ Tst g sc' n ifs ρ' σ (tst i) ∧ (tst i = true → Ev g sc' n elt ρ' σ (val i) σ ∧ ck.may (val i)))
    (hI : LcI ck g R cenv D wr St ρc σ tst val P₁ δ₁ xs.length s xs.length s)
    (hend : ∀ P' δ' h' tk' ys, (∀ b o, P₁ b o → P' b o) → δ₁ <+: δ' → Inv g R P' δ' cenv ρc σ h' → (∀ b ∈ D :: wr, Free R P' δ' cenv b) → ck.has g.w h' D (ys : List Value) → g.SeesL P' δ' ys (outs tst val xs.length) → Rr (.ok .next) { s with heap := h', toks := tk' }) :
    codeAny (model g.prog g.w) A (.compLoop (ck.ex elt tgt iter ifs scope pos) 0 (.ref It) (.ref D) cenv) Rr s := by
  refine codeAny_compLoop_any ck (LcI ck g R cenv D wr St ρc σ tst val P₁ δ₁ xs.length s) ?_ xs.length hI
  rintro m s' ⟨P', δ', h', tk', i, ys, rfl, le, pr, I', hf, st, hpl, hys, hi, rfl⟩
  obtain ⟨oD, hoD, hcD, hbD⟩ := ck.has_obj hpl
  by_cases hlt : i < xs.length
  · obtain ⟨ρ', ha, hsub, htst, helt⟩ := hturn i xs[i] (List.getElem?_eq_getElem hlt)
    have W' := W.with (D := D) (oD := oD) hD hcD
    refine wpAny_mono (W'.turn O hA (i := i) (s := { s with heap := h', toks := tk' }) (List.getElem?_eq_getElem hlt) I' le pr hf ⟨st, hoD⟩ ha
      (Q := fun s₂ => wpAny (model g.prog g.w) A (forIn ifs true fun c r => if r = true then do let ok ← isTrue c cenv (eval c cenv); pure (ForInStep.yield ok) else pure (ForInStep.yield r)) (fun ok s₃ =>
            if ok = true then wpAny (model g.prog g.w) A (eval elt cenv) (fun x s₄ =>
              wpAny (model g.prog g.w) A (call (.builtin ck.put) [.ref D, x]) (fun _ s₅ => ∃ m, m < xs.length - i ∧ LcI ck g R cenv D wr St ρc σ tst val P₁ δ₁ xs.length s m s₅) NoE s₄) NoE s₃
            else ∃ m, m < xs.length - i ∧ LcI ck g R cenv D wr St ρc σ tst val P₁ δ₁ xs.length s m s₃) NoE s₂) fun P₂ δ₂ h₂ tk₂ le₂ pr₂ I₂ hf₂ st₂ => ?_) (fun r s₁ hr => ?_) fun _ _ e => e
    · have hc : ∀ b ∈ D :: wr, ∀ o, h₂.get? b = some o → ∀ v, o.data ≠ .cell v := fun b hm o e => let ⟨o', ho', hc⟩ := W'.live _ _ st₂ b hm; by rw [ho'] at e; cases e; exact hc
      have lv : ∀ b ∈ D :: wr, ∃ o, h₂.get? b = some o := fun b hm => let ⟨o, ho, _⟩ := W'.live _ _ st₂ b hm; ⟨o, ho⟩
      refine htst.run cenv A (held R (D :: wr) h₂) P₂ δ₂ _ _ O hA.held I₂ fun ok P₃ δ₃ h₃ tk₃ le₃ pr₃ I₃ e => ?_
      subst e
      -- what is there after the tests, or after the value
      have fin : ∀ P₄ δ₄ h₄, (∀ b o, P₂ b o → P₄ b o) → δ₂ <+: δ₄ → Inv g (held R (D :: wr) h₂) P₄ δ₄ cenv ρ' σ h₄ → Inv g R P₄ δ₄ cenv ρc σ h₄ ∧ (∀ b ∈ D :: wr, Free R P₄ δ₄ cenv b) ∧ St (i + 1) h₄ ∧ h₄.get? D = some oD := by
        intro P₄ δ₄ h₄ le₄ pr₄ I₄
        have hs₄ := W'.frame _ _ h₄ st₂ (fun b hm o e => I₄.keepR b o (.inr ⟨hm, e⟩)) (fun c o p => I₂.keepP c o (le₂ c o (le c o p))) fun b o p => I₄.keepP b o (le₄ b o (le₂ b o (le b o p)))
        exact ⟨(I₄.unhold I'.base hc).forget hsub, I₄.still I'.base hf₂ lv, hs₄.1, hs₄.2⟩
      have leP : ∀ b o, P₁ b o → P₂ b o := fun b o z => le₂ b o (le b o z)
      have hlen := hys.length
      have hol := outs_length tst val i
      by_cases hti : tst i = true
      · rw [if_pos hti]
        refine (helt hti).1.run cenv A (held R (D :: wr) h₂) P₃ δ₃ _ _ O hA.held I₃ fun x P₄ δ₄ h₄ tk₄ le₄ pr₄ I₄ s₄ => ?_
        obtain ⟨J, hf₄, st₄, hD₄⟩ := fin P₄ δ₄ h₄ (fun b o z => le₄ b o (le₃ b o z)) (pr₃.trans pr₄) I₄
        refine ck.add (s := { s with heap := h₄, toks := tk₄ }) (hbD h₄ hD₄) s₄ (helt hti).2 (by omega) fun h₅ tk₅ r hs₅ hp₅ => ?_
        have hDf := hf₄ D List.mem_cons_self
        refine ⟨xs.length - (i + 1), by omega, P₄, δ₄, h₅, tk₅, i + 1, ys ++ [x], rfl, fun b o z => le₄ b o (le₃ b o (leP b o z)), ((pr.trans pr₂).trans pr₃).trans pr₄, J.sameBut hDf hs₅, hf₄, ?_, hp₅, ?_, by omega, rfl⟩
        · refine W.frame _ _ h₅ st₄ (fun b hm o e => (hs₅.2 b (fun q => hD (q ▸ hm))).trans e) (fun b o p => J.keepP b o (le₄ b o (le₃ b o (leP b o p)))) fun b o p => (hs₅.2 b ?_).trans (J.keepP b o (le₄ b o (le₃ b o (leP b o p))))
          rintro rfl
          exact hDf.p _ (le₄ _ o (le₃ _ o (leP _ o p)))
        · rw [outs_succ, if_pos hti]
          exact ((((hys.mono le₂ pr₂).mono le₃ pr₃).mono le₄ pr₄).append (.cons s₄ .nil))
      · rw [if_neg hti]
        obtain ⟨J, hf₄, st₄, hD₄⟩ := fin P₃ δ₃ h₃ le₃ pr₃ I₃
        refine ⟨xs.length - (i + 1), by omega, P₃, δ₃, h₃, tk₃, i + 1, ys, rfl, fun b o z => le₃ b o (leP b o z), (pr.trans pr₂).trans pr₃, J, hf₄, st₄, hbD h₃ hD₄, ?_, by omega, rfl⟩
        rw [outs_succ, if_neg hti]
        exact (hys.mono le₂ pr₂).mono le₃ pr₃
    · cases r with
      | none => exact hr.elim
      | some v => exact hr
  · have hn : i = xs.length := by omega
    subst hn
    refine wpAny_mono (W.done { s with heap := h', toks := tk' } (fun r s₁ => r = none ∧ Rr (.ok .next) s₁) st (fun b o p => I'.keepP b o (le b o p)) fun h₂ tk₂ hk => ⟨rfl, ?_⟩) (fun r s₁ hr => ?_) fun _ _ e => e
    · have I₂ : Inv g R P' δ' cenv ρc σ h₂ := I'.keeps fun b o k e => hk b o (fun hm => by
        have f := hf b (List.mem_cons_of_mem _ hm)
        rcases k with ⟨q, k⟩ | ⟨q, k⟩ | k | k
        · exact f.r _ k
        · exact f.p _ k
        · exact f.d k
        · exact f.s k) e
      exact hend P' δ' h₂ tk₂ ys le pr I₂ hf (hbD h₂ (hk D _ hD hoD)) hys
    · obtain ⟨rfl, hr⟩ := hr
      exact hr
end
end Mine
end
section
open PySem PySem.W PyProof.Rows PySem.Calls PySem.SeqAt
set_option Elab.async false
set_option linter.unusedVariables false
set_option maxRecDepth 100000
namespace Mine

/-- a scope of a comprehension as the model's reader makes them -/
noncomputable def lcScope (scope : Scope) : Bool :=
  scope.names.all (fun x => !(x.2 == .cell)) && scope.kind == .function && scope.names.all (fun x => !(x.2 == .local) || scope.names.lookup x.1 == some .local)
/-- what the scope lends is the function's -/
noncomputable def lcLends (scope sc : Scope) : Bool := sc.kind == .function && scope.names.all (fun x => !(x.2 == .free) || sc.names.lookup x.1 == some .cell)

section
variable {g : Glo} {R : RS} {P P' : PS} {δ δ' : List Addr} {env cenv : Env} {ρ ρ' ρc ρ₁ ρ₂ : Loc} {σ σ' σ₁ σ₂ σ₃ : List MO} {h h' : Heap} {sc : Scope} {n : Nat} {Φ : Out → Prop} {rest : List Stmt}

theorem relab_cell {scope : Scope} {x : Str} (hc : lcScope scope = true) (h : (relab scope sc).names.lookup x = some .cell) : (x, NameKind.free) ∈ scope.names ∧ sc.names.lookup x = some .cell := by
  unfold lcScope at hc
  simp only [Bool.and_eq_true] at hc
  obtain ⟨⟨h1, h2⟩, h3⟩ := hc
  have := lookup_relab (f := fun p => sc.kind == .function && sc.names.lookup p.1 == some .cell) (x := x) (l := scope.names) (fun y hy => by simpa using List.all_eq_true.mp h1 y hy) (by
    unfold relab at h
    simp only [Bool.and_assoc] at h
    exact h)
  refine ⟨this.1, ?_⟩
  have := this.2
  rw [Bool.and_eq_true] at this
  simpa using this.2

theorem shares_of {scope : Scope} {cl : List (Str × Addr)} {C : Addr} (O : EnvOk env sc) (hc : lcScope scope = true) (h1 : ∀ n a, cl.lookup n = some a → env.cells.lookup n = some a) (h2 : ∀ x ∈ scope.names, x.2 = .free → ∃ a, cl.lookup x.1 = some a) :
    Shares env (compEnvC scope cl C env) C (capt scope sc ρ) ρ := by
  have hsc : (compEnvC scope cl C env).scope = relab scope sc := relabel_eq O.scope
  have kind : ∀ x, (compEnvC scope cl C env).kindOf x = (relab scope sc).names.lookup x := fun x => by show (compEnvC scope cl C env).scope.names.lookup x = _; rw [hsc]
  refine ⟨rfl, ?_, ?_, ?_, ?_⟩
  · intro x c hx e
    rw [kind] at hx
    refine ⟨?_, h1 x c e⟩
    show env.scope.names.lookup x = _
    rw [O.scope]; exact (relab_cell hc hx).2
  · intro x hx
    rw [kind] at hx
    exact h2 (x, .free) (relab_cell hc hx).1 rfl
  · intro x y e
    rw [kind]
    unfold capt at e
    rw [lookup_filter (q := fun x => (relab scope sc).names.lookup x == some .cell)] at e
    split at e
    · rename_i hq
      exact ⟨e, by simpa using hq⟩
    · cases e
  · intro x y hx e
    rw [kind] at hx
    rw [capt_lookup hx]; exact e

theorem CK.make (ck : CK) {prog : Program} {w : World} {A : Around} {E : Value → Shared → Prop} {s : Shared} {Q : Value → Shared → Prop}
    (h : ∀ o : Obj, o.isFreed = false → (∀ v, o.data ≠ .cell v) → (∀ (h' : Heap) D, h'.get? D = some o → ck.has w h' D []) → Q (.ref s.heap.objs.size) { s with heap := s.heap.push o }) : wpAny (model prog w) A ck.mk Q E s := by
  cases ck with
  | l => exact wpAny_newObj_type (h _ rfl (fun v c => by cases c) fun h' D e => ⟨0, e⟩)
  | s => exact newSet_bool (h _ rfl (fun v c => by cases c) fun h' D e => ⟨[], 0, rfl, e⟩)
/-- a comprehension's object, made; what is done with it, and then the comprehension's names go -/
theorem wp_lc (ck : CK) {tgt elt iter : Expr} {ifs : List Expr} {scope : Scope} {pos p' : Pos} {xs : List V} (tst : Nat → Bool) (val : Nat → V) (hc : lcScope scope = true) (hl : lcLends scope sc = true) (hsrc : Src g sc n iter ρ σ xs σ₁ tgt) (hz : xs.length ≤ 16777215)
    (hturn : ∀ i y, xs[i]? = some y → ∃ ρ', Asg g (relab scope sc) n tgt y (capt scope sc ρ) ρ' ∧ Sub (capt scope sc ρ) ρ' ∧ Tst g (relab scope sc) n ifs ρ' σ₁ (tst i) ∧ (tst i = true → Ev g (relab scope sc) n elt ρ' σ₁ (val i) σ₁ ∧ ck.may (val i)))
    {A : Around} {s : Shared} {use : Option (Value → Sem Unit)} {Q : Value → Shared → Prop} (O : EnvOk env sc) (hA : AOk A n R env) (I : Inv g R P δ env ρ σ s.heap) (hs : ∀ x, foldedSetIterable iter env x = pure x)
    (hp : ∀ P' δ' C D h' tk' ys, (∀ b o, P b o → P' b o) → δ <+: δ' → Inv g R P' δ' env ρ σ₁ h' → (∃ m, h'.Ns C m) → Free R P' δ' env C → Free R P' δ' env D → D ≠ C → ck.has g.w h' D ys → g.SeesL P' δ' ys (outs tst val xs.length) → C ≠ env.locals →
      compPost (model g.prog g.w) A NoE use Q (.ref D) C (.ok .next) { s with heap := h', toks := tk' }) :
    wpAny (model g.prog g.w) A (comprehension (ck.ex elt tgt iter ifs scope pos) scope env p' ck.mk false (eval iter env) use) Q NoE s := by
  have hcs := hc
  unfold lcScope at hcs
  simp only [Bool.and_eq_true] at hcs
  obtain ⟨⟨c1, c2⟩, c3⟩ := hcs
  unfold lcLends at hl
  rw [Bool.and_eq_true] at hl
  have hcell : ∀ y ∈ scope.names, y.2 ≠ .cell := fun y hy => by simpa using List.all_eq_true.mp c1 y hy
  have hkind : scope.kind = .function := by simpa using c2
  have hnames : ∀ y ∈ scope.names, y.2 = .local → scope.names.lookup y.1 = some .local := fun y hy e => by
    have := List.all_eq_true.mp c3 y hy
    simpa [e] using this
  have hfree : ∀ x ∈ scope.names, x.2 = .free → ∃ a, env.cells.lookup x.1 = some a := fun x hx e => by
    have := List.all_eq_true.mp hl.2 x hx
    have hk : env.kindOf x.1 = some .cell := by
      show env.scope.names.lookup x.1 = _
      rw [O.scope]; simpa [e] using this
    obtain ⟨c, _, h, _⟩ := I.cel x.1 hk
    exact ⟨c, h⟩
  obtain ⟨cl, hclos, hcl1, hcl2⟩ := closureFor_ok hfree
  refine wpAny_comprehension_free (g := ⟨tgt, iter, ifs, 0⟩) (gs := []) (by cases ck <;> rfl) hs hclos hkind hnames ?_
  refine hsrc.run env A R P δ s _ O hA I fun It wr St P₁ δ₁ h₁ tk₁ le₁ pr₁ I₁ hf₁ W st₁ => ?_
  have W := W A hA.handled
  -- the list
  refine ck.make fun oD hoF hoC hoH => (wpAny_newFunctionEnv hcell (by intro y hy; simp at hy) (fun h₃ hns₃ hsb₃ => ?_) hkind)
  dsimp only at hns₃ hsb₃ ⊢
  generalize hH2 : h₁.push oD = H2 at hns₃ hsb₃ ⊢
  have hsz2 : H2.objs.size = h₁.objs.size + 1 := by rw [← hH2, Heap.size_push]
  have k12 : ∀ b o, h₁.get? b = some o → H2.get? b = some o := fun b o e => hH2 ▸ Heap.get?_push_of_some _ e
  have hD2 : H2.get? h₁.objs.size = some oD := hH2 ▸ Heap.get?_push_size _ hoF
  have hC2 : H2.get? H2.objs.size = none := get_size_none H2
  have k23 : ∀ b o, H2.get? b = some o → h₃.get? b = some o := fun b o e => (hsb₃.2 b (Nat.ne_of_lt (Heap.lt_size e))).trans (Heap.get?_push_of_some _ e)
  have I₂ := I₁.grows k12
  have hsh := shares_of (ρ := ρ) (cl := cl) (C := H2.objs.size) O hc hcl1 hcl2
  have hns : h₃.Ns H2.objs.size (fun _ => none) := hns₃
  have J := I₂.inner hsh hC2 hns k23
  have hCf := I₂.free hC2
  have hDn : h₁.get? h₁.objs.size = none := get_size_none h₁
  have hDf := I₁.free hDn
  have hDwr : h₁.objs.size ∉ wr := fun hm => by
    obtain ⟨o, ho, _⟩ := W.live _ _ st₁ _ hm
    rw [hDn] at ho; cases ho
  have hCw : H2.objs.size ∉ h₁.objs.size :: wr := fun hm => by
    rcases List.mem_cons.mp hm with e | hm
    · rw [hsz2] at e; exact Nat.succ_ne_self _ e
    · obtain ⟨o, ho, _⟩ := W.live _ _ st₁ _ hm
      have := Heap.lt_size ho
      rw [hsz2] at this
      exact Nat.not_lt.mpr (Nat.le_succ _) this
  have inF : ∀ b ∈ h₁.objs.size :: wr, Free (within R env (compEnvC scope cl H2.objs.size env) H2) P₁ δ₁ (compEnvC scope cl H2.objs.size env) b := fun b hb => by
    have f : Free R P₁ δ₁ env b := by
      rcases List.mem_cons.mp hb with rfl | hb
      · exact hDf
      · exact hf₁ b hb
    refine ⟨fun o x => ?_, f.p, f.d, fun x => ?_⟩
    · rcases within_any x with x | ⟨x, _, _⟩
      · exact f.r o x
      · exact f.s x
    · rcases x with e | ⟨x, hx, hxc⟩
      · exact hCw (by have e' : b = H2.objs.size := e; rw [← e']; exact hb)
      · obtain ⟨a1, a2⟩ := hsh.cells x b hx hxc
        exact f.s (.inr ⟨x, a1, a2⟩)
  have hAc : AOk A n (within R env (compEnvC scope cl H2.objs.size env) H2) (compEnvC scope cl H2.objs.size env) := by
    refine ⟨hA.handled, hA.depth, hA.units, ?_⟩
    obtain ⟨l, L, e1, eL, fL, e0, e2⟩ := hA.stack
    have hLC : env.locals ≠ H2.objs.size := fun e => hCf.s (.inl e.symm)
    have hLn : ¬ slot (compEnvC scope cl H2.objs.size env) env.locals := by
      rintro (e | ⟨x, hx, hxc⟩)
      · exact hLC e
      · obtain ⟨a1, a2⟩ := hsh.cells x _ hx hxc
        exact I₂.nloc x a1 a2
    obtain ⟨m, ⟨o0, es, ep, ho0, hd0, _⟩, _⟩ := I₂.loc
    have upL : (within R env (compEnvC scope cl H2.objs.size env) H2).up env.locals o0 := .inr ⟨.inl rfl, hLn, ho0⟩
    refine ⟨l, L, e1, eL, .inr ?_, e0, fun e he => ?_⟩
    · rcases fL with rfl | ⟨o, fL⟩
      · exact ⟨_, upL⟩
      · exact ⟨o, .inl fL⟩
    · obtain ⟨k, L, f1, f2⟩ := e2 e he
      refine ⟨k, L, f1, .inr ?_⟩
      rcases f2 with rfl | ⟨o, f2, f3⟩
      · exact ⟨o0, upL, fun vs c => by rw [hd0] at c; cases c⟩
      · exact ⟨o, .inl f2, f3⟩
  have Oc : EnvOk (compEnvC scope cl H2.objs.size env) (relab scope sc) := ⟨relabel_eq O.scope, by show scope.kind = _; exact hkind, O.globals, O.builtins⟩
  have st₃ : St 0 h₃ := W.frame _ _ _ st₁ (fun b _ o e => k23 b o (k12 b o e)) (fun b o p => I₁.keepP b o p) fun b o p => J.keepP b o p
  have hD3 := k23 _ _ hD2
  have loop : ∀ s₃ : Shared, s₃ = { s with heap := h₃, toks := tk₁ + ([] : List (Str × Value)).length } →
      codeAny (model g.prog g.w) A (.compLoop (ck.ex elt tgt iter ifs scope pos) 0 (.ref It) (.ref h₁.objs.size) (compEnvC scope cl H2.objs.size env)) (compPost (model g.prog g.w) A NoE use Q (.ref h₁.objs.size) H2.objs.size) s₃ := by
    rintro s₃ rfl
    refine lc_loop ck tst val Oc hAc W hDwr hz hturn ⟨P₁, δ₁, h₃, _, 0, [], rfl, fun _ _ z => z, List.prefix_refl _, J, inF, st₃, hoH _ _ hD3, .nil, Nat.zero_le _, rfl⟩ ?_
    intro P' δ' h' tk' ys le pr J' hf' hpl hys
    have K := I₂.outer hsh hC2 le pr J'
    have hD' := hf' h₁.objs.size List.mem_cons_self
    have hDfree : Free R P' δ' env h₁.objs.size := ⟨fun o x => hD'.r o (any_within x), hD'.p, hD'.d, hDf.s⟩
    obtain ⟨m, hm, _⟩ := J'.loc
    have sC : slot (compEnvC scope cl H2.objs.size env) H2.objs.size := .inl rfl
    have hCfree : Free R P' δ' env H2.objs.size := ⟨fun o x => J'.offR _ o sC (any_within x), fun o x => J'.offP _ o sC x, fun x => J'.offD _ sC x, hCf.s⟩
    exact hp _ δ' H2.objs.size h₁.objs.size h' tk' ys (fun b o z => le b o (le₁ b o z)) (pr₁.trans pr) K ⟨m, hm⟩ hCfree hDfree (fun e => hCw (e ▸ List.mem_cons_self)) hpl hys (fun e => hCf.s (.inl e))
  exact codeAny_compStart_ck ck (loop _ rfl) (wpAny_mono (W.self 0 _ _ st₃ (loop _ rfl)) (fun _ _ z => z) fun _ _ e => e.elim)

/-- a list that nobody else knows stays as it is from now on -/
theorem lc_pin {C D : Addr} {ys : List Value} {xs : List V} (I : Inv g R P δ env ρ σ h) (hC : Free R P δ env C) (hD : Free R P δ env D) (hne : D ≠ C) (hpl : CK.l.has g.w h D ys) (hys : g.SeesL P δ ys xs) :
    ∃ P', (∀ b o, P b o → P' b o) ∧ Inv g R P' δ env ρ σ h ∧ Free R P' δ env C ∧ g.Sees P' δ (.ref D) (.list xs) := by
  obtain ⟨k, hpl⟩ := hpl
  refine ⟨_, pin_le, I.pin hD hpl, ⟨hC.r, fun o x => ?_, hC.d, hC.s⟩, .mkList pin_at rfl rfl (hys.mono pin_le (List.prefix_refl _))⟩
  rcases x with x | ⟨x, _⟩
  · exact hC.p o x
  · exact hne x.symm

/-- a list comprehension -/
theorem ev_lc {tgt elt iter : Expr} {ifs : List Expr} {scope : Scope} {pos : Pos} {xs : List V} {y : V} (tst : Nat → Bool) (val : Nat → V) (hsrc : Src g sc n iter ρ σ xs σ₁ tgt) (hz : xs.length ≤ 16777215)
    (hturn : ∀ i y, xs[i]? = some y → ∃ ρ', Asg g (relab scope sc) n tgt y (capt scope sc ρ) ρ' ∧ Sub (capt scope sc ρ) ρ' ∧ Tst g (relab scope sc) n ifs ρ' σ₁ (tst i) ∧ (tst i = true → Ev g (relab scope sc) n elt ρ' σ₁ (val i) σ₁))
    (hy : y = .list (outs tst val xs.length)) (hc : lcScope scope = true := by decide +kernel) (hl : lcLends scope sc = true := by decide +kernel) (hs : ∀ env x, foldedSetIterable iter env x = pure x := by intro _ _; rfl) : Ev g sc n (.ListComp elt [⟨tgt, iter, ifs, 0⟩] scope pos) ρ σ y σ₁ := .mk fun env A R P δ s Q O hA I h => by
  subst hy
  rw [eval_ListComp]
  refine wp_lc .l tst val hc hl hsrc hz (fun i y hy => let ⟨ρ', a, b, c, d⟩ := hturn i y hy; ⟨ρ', a, b, c, fun e => ⟨d e, trivial⟩⟩) (use := none) O hA I (hs env) fun P' δ' C D h' tk' ys le pr I' hm hf hDf hDC hpl hys hne => ?_
  obtain ⟨m, hm⟩ := hm
  obtain ⟨P₂, le₂, I₂, hf₂, hD⟩ := lc_pin I' hf hDf hDC hpl hys
  exact ⟨m, hm, fun h'' hs'' => h _ P₂ δ' h'' tk' (fun b o z => le₂ b o (le b o z)) pr (I₂.sameBut hf₂ hs'') hD⟩
/-- a name is given a list comprehension -/
theorem ex1_lc {a : Str} {pa p : Pos} {tgt elt iter : Expr} {ifs : List Expr} {scope : Scope} {pos : Pos} {xs : List V} {y : V} (tst : Nat → Bool) (val : Nat → V) (hsrc : Src g sc n iter ρ σ xs σ₁ tgt) (hz : xs.length ≤ 16777215)
    (hturn : ∀ i y, xs[i]? = some y → ∃ ρ', Asg g (relab scope sc) n tgt y (capt scope sc ρ) ρ' ∧ Sub (capt scope sc ρ) ρ' ∧ Tst g (relab scope sc) n ifs ρ' σ₁ (tst i) ∧ (tst i = true → Ev g (relab scope sc) n elt ρ' σ₁ (val i) σ₁))
    (hy : y = .list (outs tst val xs.length)) (ha : isVar sc a = true := by decide +kernel) (hc : lcScope scope = true := by decide +kernel) (hl : lcLends scope sc = true := by decide +kernel) (hs : ∀ env x, foldedSetIterable iter env x = pure x := by intro _ _; rfl) : Ex1 g sc n (.Assign [.Name a pa] (.ListComp elt [⟨tgt, iter, ifs, 0⟩] scope pos) p) ρ σ ((a, y) :: ρ) σ₁ := .mk fun env A R P δ s Q O hA I k => by
  have hsw : swapsWith (.ListComp elt [⟨tgt, iter, ifs, 0⟩] scope pos) (some (.Name a pa)) p.line env = pure false ∨ swapsWith (.ListComp elt [⟨tgt, iter, ifs, 0⟩] scope pos) (some (.Name a pa)) p.line env = pure true := by
    show (pure _ : Sem Bool) = _ ∨ (pure _ : Sem Bool) = _
    generalize (env.blockKind == ScopeKind.function && env.kindOf a == some NameKind.local && pa.line == (Expr.ListComp elt [⟨tgt, iter, ifs, 0⟩] scope pos).pos.line && !(scope.names.any fun x => x.1 == a && (x.2 == NameKind.local || x.2 == NameKind.cell))) = b
    cases b
    · exact .inl rfl
    · exact .inr rfl
  rcases hsw with hsw | hsw
  · exact wpAny_Assign_Name ((ev_lc tst val hsrc hz hturn hy hc hl hs).run env A R P δ s _ O hA I fun v P₁ δ₁ hh₁ tk₁ le₁ pr₁ I₁ s₁ => wp_store (s := { s with heap := hh₁, toks := tk₁ }) O I₁ ha s₁ fun h' tk' I' => k P₁ δ₁ h' tk' le₁ pr₁ I') hsw
  · rw [exec_Assign_Name_used _ _ _ _ hsw]
    refine wpAny_bind (wpAny_standAt (wpAny_bind ?_))
    show wpAny _ A (comprehension _ scope env (firstIterPos [⟨tgt, iter, ifs, 0⟩] pos) (newList []) false (eval iter env) (some (assign (.Name a pa) env)) >>= fun _ => pure ()) _ NoE s
    refine wpAny_bind (wp_lc .l (Q := fun _ s' => wpAny (model g.prog g.w) A (pure ()) (fun _ s'' => wpAny (model g.prog g.w) A (pure Flow.next) Q NoE s'') NoE s') tst val hc hl hsrc hz (fun i y hy => let ⟨ρ', a, b, c, d⟩ := hturn i y hy; ⟨ρ', a, b, c, fun e => ⟨d e, trivial⟩⟩) (use := some (assign (.Name a pa) env)) O hA I (hs env) fun P' δ' C D h' tk' ys le' pr I' hm hf hDf hDC hpl hys hne => ?_)
    obtain ⟨P', le₂, I', hf, hD⟩ := lc_pin I' hf hDf hDC hpl hys
    have le := fun b o z => le₂ b o (le' b o z)
    subst hy
    obtain ⟨m, oC, es, ep, hoC, hdC, rC⟩ := hm
    have hfC : ∀ b ∈ [C], Free R P' δ' env b := fun b hb => List.mem_singleton.mp hb ▸ hf
    refine wpAny_assign_Name (wp_store (s := { s with heap := h', toks := tk' }) O (I'.hold hfC) ha hD fun h'' tk'' I'' => ?_)
    have hC'' := I''.keepR C oC (.inr ⟨List.mem_singleton.mpr rfl, hoC⟩)
    have J := I''.unhold I'.base fun b hb o e v c => by
      rw [List.mem_singleton.mp hb] at e
      have e : h'.get? C = some o := e
      rw [hoC] at e; cases e
      rw [hdC] at c; cases c
    exact ⟨m, ⟨oC, es, ep, hC'', hdC, rC⟩, fun h3 hs3 => wpAny_pure (wpAny_pure (k P' δ' h3 tk'' le pr (J.sameBut hf hs3)))⟩
end
end Mine
end
section
open PySem PySem.W PyProof.Rows PySem.Calls PySem.SeqAt
set_option Elab.async false
set_option linter.unusedVariables false
set_option maxRecDepth 100000
namespace Mine
section
variable {g : Glo} {R : RS} {P P' : PS} {δ δ' : List Addr} {env cenv : Env} {ρ ρ' ρc ρ₁ ρ₂ : Loc} {σ σ' σ₁ σ₂ σ₃ : List MO} {h h' : Heap} {sc : Scope} {n : Nat} {Φ : Out → Prop} {rest : List Stmt}

/-- a def's end: what it gives back, and what the cells hold then -/
noncomputable def End (x : V) (σ' : List MO) (o : Out) : Prop := o = .rt x σ' ∨ (x = .none ∧ ∃ r, o = .nx r σ')
theorem fn_at {name : Str} {params : Arguments} {body : List Stmt} {scope : Scope} {pos : Pos} {args : List V} {x : V} (names : List Str) (hd : (⟨name, params, body, scope, pos⟩ : DefRec) ∈ recsOf g.p)
    (hbind : ∀ pm cd doc vs, vs.length = args.length → bindArgs (docDef name params body scope pm cd doc) ⟨vs, []⟩ = pure (names.zip vs))
    (hbody : Ex g scope n body (names.zip args) σ (End x σ')) (hl : names.length = args.length := by rfl) (hn : names.Nodup := by decide +kernel) (hv : names.all (isVar scope) = true := by decide +kernel)
    (hco : scope.isCoroutine = false := by rfl) (hgen : scope.isGenerator = false := by rfl) (hk : scope.kind = .function := by rfl) : Fn g (n + 1) name args σ x σ' := by
  exact fn_gen (d := ⟨name, params, body, scope, pos⟩) hd (bind_plain (d := ⟨name, params, body, scope, pos⟩) names hbind hl hn hv) hbody hco hgen hk
/-- a word about what follows -/
theorem ex1_doc {x : Str} {k : Nat} {p p' : Pos} : Ex1 g sc n (.Expr (.Constant (.str x) k p) p') ρ σ ρ σ := .mk fun env A R P δ s Q O hA I kk => by
  refine wpAny_Expr_any (wpAny_Constant_str (kk P δ s.heap (s.toks + 1) (fun _ _ z => z) (List.prefix_refl _) I)) ?_ rfl
  unfold interactive
  rw [O.scope, O.kind]; rfl

theorem ret_end {x : V} : End x σ (.rt x σ) := .inl rfl
theorem nx_end : End .none σ (.nx ρ σ) := .inr ⟨rfl, ρ, rfl⟩

/-- two names are given a pair, the second first -/
theorem ex1_swap {a b : Str} {pa pb pt p : Pos} {k : Nat} {e : Expr} {x y : V} (h1 : Ev g sc n e ρ σ (.tup [x, y]) σ₁) (hw : ∀ env, env.scope = sc → swappedStores [.Tuple [.Name a pa, .Name b pb] k pt] e env = pure (some [a, b]) := by intro env e; unfold swappedStores Env.blockKind Env.kindOf; rw [e]; rfl)
    (hs : ∀ env, swapsWithSole [.Tuple [.Name a pa, .Name b pb] k pt] e p.line env = pure false := by intro _; rfl) (ha : isVar sc a = true := by decide +kernel) (hb : isVar sc b = true := by decide +kernel) :
    Ex1 g sc n (.Assign [.Tuple [.Name a pa, .Name b pb] k pt] e p) ρ σ ((a, x) :: (b, y) :: ρ) σ₁ := .mk fun env A R P δ s Q O hA I kk => by
  refine Assign_Tuple_swapped (h1.run env A R P δ s _ O hA I fun v P₁ δ₁ hh₁ tk₁ le₁ pr₁ I₁ s₁ => ?_) (hs env) (hw env O.scope)
  obtain ⟨t, vs, rfl, ht, hvs⟩ := I₁.tupOf s₁
  obtain ⟨v, u, rfl, hv, hu⟩ := hvs.two
  have hlen : [a, b].length = [v, u].toArray.size := rfl
  rw [hlen]
  refine wpAny_unpackItems_tuple (s := { s with heap := hh₁, toks := tk₁ }) hA.handled ht fun h' hx => ?_
  have I₂ := I₁.pinned_ext hx
  refine wpAny_assignInOrder_more (wpAny_bindName (wp_store (s := { s with heap := h', toks := tk₁ }) O I₂ hb hu fun h₃ tk₃ I₃ => ?_))
  refine wpAny_assignInOrder_more (wpAny_bindName (wp_store (s := { s with heap := h₃, toks := tk₃ }) O I₃ ha hv fun h₄ tk₄ I₄ => ?_))
  exact wpAny_assignInOrder_none (kk P₁ δ₁ h₄ tk₄ le₁ pr₁ I₄)

/-- what comes after a block -/
noncomputable def Thn (g : Glo) (sc : Scope) (n : Nat) (rest : List Stmt) (Φ : Out → Prop) : Out → Prop
  | .nx r s => Ex g sc n rest r s Φ
  | o => Φ o
theorem ex_try {body : List Stmt} {h₀ : ExceptHandler} {hs : List ExceptHandler} {pos : Pos} (h1 : Ex g sc n body ρ σ (Thn g sc n rest Φ)) : Ex g sc n (.Try body (h₀ :: hs) [] [] pos :: rest) ρ σ Φ := .mk fun env A R P δ s Q O hA I k => by
  refine wpAny_execs_cons (wpAny_Try_except (wpAny_mono (h1.run env A R P δ s (fun f s' => match f with | .next => wpAny (model g.prog g.w) A (execs rest env) Q NoE s' | f => Q f s') O hA I fun o ho => ?_) (fun f s₁ z => ?_) fun _ _ e => e.elim))
  · cases o with
    | nx r σ' => exact fun P' δ' h' tk' le pr I' => ho.run env A R P' δ' _ Q O hA I' fun o' ho' => (k o' ho').mono le pr
    | ct r σ' => exact k _ ho
    | bk r σ' => exact k _ ho
    | rt x σ' => exact k _ ho
  · cases f with
    | next => exact wpAny_execs_nil z
    | _ => exact z

theorem bind_var {d : DefRec} {x : V} {xs : List V} (a p : Str) (hbind : ∀ pm cd doc v vs, bindArgs (docDef d.name d.params d.body d.scope pm cd doc) ⟨v :: vs, []⟩ = (newTuple vs >>= fun t => pure [(a, v), (p, t)])) (hap : a ≠ p) (ha : isVar d.scope a = true) (hp : isVar d.scope p = true) (hz : xs.length ≤ 16777216)
    (pm cd doc) (ρ : Loc) (A : Around) (R : RS) (P : PS) (δ : List Addr) (env : Env) (s : Shared) (vs : List Value) (I : Inv g R P δ env ρ σ s.heap) (hvs : g.SeesL P δ vs (x :: xs)) :
    wpAny (model g.prog g.w) A (bindArgs (docDef d.name d.params d.body d.scope pm cd doc) ⟨vs, []⟩) (fun binds s₁ => ∃ P₁ h₁ tk₁, s₁ = { s with heap := h₁, toks := tk₁ } ∧ (∀ b o, P b o → P₁ b o) ∧ Inv g R P₁ δ env ρ σ h₁ ∧ Binds g P₁ δ binds [(a, x), (p, .tup xs)] ∧ ∀ b ∈ binds, isVar d.scope b.1 = true) NoE s := by
  obtain ⟨v, us, rfl, hv, hus⟩ := hvs.cons_inv
  rw [hbind]
  have hlen := hus.length
  refine wpAny_bind (wpAny_newTuple (wpAny_pure ⟨pinned P s.heap.objs.size { cls := .type "tuple", data := .seq us.toArray }, _, s.toks, rfl, pin_le, I.pushPin _, ⟨by simpa using hap, fun z y e => ?_⟩, fun b hb => ?_⟩) (by rw [sizeLine_eq]; omega))
  · rw [List.lookup_cons] at e
    by_cases hz : z = a
    · subst hz
      simp only [beq_self_eq_true] at e
      cases e
      exact ⟨v, List.mem_cons_self, hv.mono pin_le (List.prefix_refl _)⟩
    · have hb : (z == a) = false := by simpa using hz
      rw [hb, List.lookup_cons] at e
      by_cases hz' : z = p
      · subst hz'
        simp only [beq_self_eq_true] at e
        cases e
        exact ⟨_, List.mem_cons_of_mem _ List.mem_cons_self, .mkTup pin_at rfl rfl (hus.mono pin_le (List.prefix_refl _))⟩
      · have hb' : (z == p) = false := by simpa using hz'
        rw [hb'] at e; cases e
  · rcases List.mem_cons.mp hb with rfl | hb
    · exact ha
    · rw [List.mem_singleton.mp hb]; exact hp

noncomputable def AllIn : Loc → Loc → Prop
  | [], _ => True
  | p :: l, r => r.lookup p.1 = some p.2 ∧ AllIn l r
theorem sub_of {r : Loc} : ∀ {ρ : Loc}, AllIn ρ r → Sub ρ r
  | [], _, x, y, e => by cases e
  | (a, v) :: l, h, x, y, e => by
    rw [List.lookup_cons] at e
    by_cases hx : x = a
    · subst hx
      simp only [beq_self_eq_true] at e
      cases e
      exact h.1
    · have hb : (x == a) = false := by simpa using hx
      rw [hb] at e
      exact sub_of h.2 x y e
theorem evb_eq {e : Expr} {b c : Bool} (h : EvB g sc n e ρ σ b σ₁) (hb : b = c) : EvB g sc n e ρ σ c σ₁ := hb ▸ h
theorem ev_eq {e : Expr} {x y : V} (h : Ev g sc n e ρ σ x σ₁) (hb : x = y) : Ev g sc n e ρ σ y σ₁ := hb ▸ h
/-- names that are of no more use are let go -/
theorem ex_sub {ss : List Stmt} (h : Ex g sc n ss ρ' σ Φ) (hb : Sub ρ' ρ) : Ex g sc n ss ρ σ Φ := .mk fun env A R P δ s Q O hA I k => h.run env A R P δ s Q O hA (I.forget hb) k
end
end Mine
end
section
open PySem PySem.W PyProof.Rows PySem.Calls PySem.SeqAt
set_option Elab.async false
set_option linter.unusedVariables false
set_option maxRecDepth 100000
namespace Mine
/-- a tree that knows the first n cells alone -/
inductive Fl (n : Nat) : V → Prop
  | none : Fl n .none
  | bool (b) : Fl n (.bool b)
  | int (i) : Fl n (.int i)
  | tx (k l) : Fl n (.tx k l)
  | list (xs : List V) : (∀ (i : Nat) x, xs[i]? = some x → Fl n x) → Fl n (.list xs)
  | tup (xs : List V) : (∀ (i : Nat) x, xs[i]? = some x → Fl n x) → Fl n (.tup xs)
  | fdict (xs : List (Str × V)) : (∀ (i : Nat) x, xs[i]? = some x → Fl n x.2) → Fl n (.fdict xs)
  | cell (i : Nat) : i < n → Fl n (.cell i)
  | ty (s) : Fl n (.ty s)
  | fn (x) : Fl n (.fn x)
section
variable {g : Glo} {R : RS} {P P' : PS} {δ δ' : List Addr} {env cenv : Env} {ρ ρ' ρc ρ₁ ρ₂ : Loc} {σ σ' σ₁ σ₂ σ₃ : List MO} {h h' : Heap} {sc : Scope} {n : Nat} {Φ : Out → Prop} {rest : List Stmt}

theorem get_of_len {α β : Type} {l : List α} {m : List β} (hl : l.length = m.length) {i : Nat} {y : β} (e : m[i]? = some y) : ∃ x, l[i]? = some x := by
  have := (List.getElem?_eq_some_iff.mp e).1
  exact ⟨l[i]'(by omega), List.getElem?_eq_getElem (by omega)⟩
theorem Sees.fl {v : Value} {x : V} (s : g.Sees P δ v x) : Fl δ.length x := by
  induction s with
  | none => exact .none
  | bool b => exact .bool b
  | int i t => exact .int i
  | str l t => exact .tx _ _
  | bytes l t => exact .tx _ _
  | list a o vs m xs _ _ _ hl _ ih => exact .list _ fun i x e => let ⟨v, hv⟩ := get_of_len hl e; ih i v x hv e
  | tup a o vs m xs _ _ _ hl _ ih => exact .tup _ fun i x e => let ⟨v, hv⟩ := get_of_len hl e; ih i v x hv e
  | fdict a o kvs xs _ _ hk _ ih => exact .fdict _ fun i x e => let ⟨v, hv⟩ := get_of_len (by have := congrArg List.length hk; simpa using this : kvs.length = xs.length) e; ih i v x hv e
  | cell a i e => exact .cell i (List.getElem?_eq_some_iff.mp e).1
  | ty m => exact .ty m
  | fn x a e => exact .fn x
theorem Sees.cut {v : Value} {x : V} (s : g.Sees P δ v x) (f : Fl n x) : g.Sees P (δ.take n) v x := by
  induction s with
  | none => exact .none
  | bool b => exact .bool b
  | int i t => exact .int i t
  | str l t => exact .str l t
  | bytes l t => exact .bytes l t
  | list a o vs m xs h1 h2 h3 h4 _ ih => cases f with | list _ f => exact .list a o vs m xs h1 h2 h3 h4 fun i v x a b => ih i v x a b (f i x b)
  | tup a o vs m xs h1 h2 h3 h4 _ ih => cases f with | tup _ f => exact .tup a o vs m xs h1 h2 h3 h4 fun i v x a b => ih i v x a b (f i x b)
  | fdict a o kvs xs h1 h2 h3 _ ih => cases f with | fdict _ f => exact .fdict a o kvs xs h1 h2 h3 fun i v x a b => ih i v x a b (f i x b)
  | cell a i e => cases f with | cell _ f => exact .cell a i (by rw [List.getElem?_take, if_pos f]; exact e)
  | ty m => exact .ty m
  | fn x a e => exact .fn x a e
noncomputable def FlO (n : Nat) : MO → Prop
  | .dict xs => ∀ (i : Nat) x, xs[i]? = some x → Fl n x.2
  | .list xs => ∀ (i : Nat) x, xs[i]? = some x → Fl n x
theorem MSees.fl {a : Addr} {o : MO} (s : MSees g P δ h a o) : FlO δ.length o := by
  cases o with
  | dict xs =>
    obtain ⟨kvs, _, hs⟩ := s
    exact fun i x e => let ⟨v, hv⟩ := get_of_len (by have := congrArg List.length hs.1; simpa using this : kvs.length = xs.length) e; (hs.2 i v x hv e).fl
  | list xs =>
    obtain ⟨vs, _, hs⟩ := s
    exact fun i x e => let ⟨v, hv⟩ := get_of_len hs.1 e; (hs.2 i v x hv e).fl
theorem MSees.cut {a : Addr} {o : MO} (s : MSees g P δ h a o) (f : FlO n o) : MSees g P (δ.take n) h a o := by
  cases o with
  | dict xs =>
    obtain ⟨kvs, hd, hs⟩ := s
    exact ⟨kvs, hd, hs.1, fun i v x a b => (hs.2 i v x a b).cut (f i x b)⟩
  | list xs =>
    obtain ⟨vs, hd, hs⟩ := s
    exact ⟨vs, hd, hs.1, fun i v x a b => (hs.2 i v x a b).cut (f i x b)⟩
/-- cells that nobody knows any more -/
theorem Inv.cut {j : List MO} (I : Inv g R P δ env ρ (σ ++ j) h) (hρ : ∀ x y, ρ.lookup x = some y → Fl σ.length y) (hσ : ∀ (i : Nat) o, σ[i]? = some o → FlO σ.length o) : Inv g R P (δ.take σ.length) env ρ σ h where
  keepR := I.keepR
  keepU := I.keepU
  part := I.part
  keepP := I.keepP
  base := I.base
  sep := I.sep
  loc := by
    obtain ⟨m, hn, hm⟩ := I.loc
    refine ⟨m, hn, fun x y e => ?_⟩
    obtain ⟨v, hs, hl⟩ := hm x y e
    exact ⟨v, hs.cut (hρ x y e), hl⟩
  cel := I.cel
  one := I.one
  nloc := I.nloc
  offP := I.offP
  offR := I.offR
  offD := fun a hs hd => I.offD a hs (List.mem_of_mem_take hd)
  dP := fun a o hd => I.dP a o (List.mem_of_mem_take hd)
  dR := fun a o hd => I.dR a o (List.mem_of_mem_take hd)
  dN := (List.take_sublist _ _).nodup I.dN
  len := by have := I.len; rw [List.length_take]; simp at this; omega
  objs := fun i a o hi ho => by
    have hlt := (List.getElem?_eq_some_iff.mp ho).1
    rw [List.getElem?_take, if_pos hlt] at hi
    exact (I.objs i a o hi (by rw [List.getElem?_append_left hlt]; exact ho)).cut (hσ i o ho)
theorem fn_drop {f : Str} {args : List V} {x : V} {j : List MO} (F : Fn g n f args σ x (σ ++ j)) (hx : ∀ m, Fl m x) : Fn g n f args σ x σ := by
  obtain ⟨a, o, fd, h1, h2, h3, h4⟩ := F
  refine ⟨a, o, fd, h1, h2, h3, ?_⟩
  intro env ρ A R P δ s Q vs hA I hvs k
  refine h4 env ρ A R P δ s Q vs hA I hvs fun v P' δ' h' tk' le pr I' hs => ?_
  have hlen := I.len
  refine k v P' (δ'.take σ.length) h' tk' le ?_ (I'.cut (fun x y e => ?_) fun i o ho => ?_) (hs.cut (hx _))
  · obtain ⟨t, rfl⟩ := pr
    rw [List.take_append_of_le_length (by omega)]
    exact ⟨[], by rw [List.append_nil, List.take_of_length_le (by omega)]⟩
  · obtain ⟨m, _, hm⟩ := I.loc
    obtain ⟨v, hs, _⟩ := hm x y e
    have := hs.fl
    rwa [hlen] at this
  · have hlt := (List.getElem?_eq_some_iff.mp ho).1
    obtain ⟨c, hc⟩ := get_of_len hlen ho
    have := (I.objs i c o hc ho).fl
    rwa [hlen] at this

/-- a list that will change -/
theorem ev_newL {es : List Expr} {p : Pos} {xs : List V} (h1 : EvL g sc n p es ρ σ xs σ₁) (hz : xs.length ≤ 16777216 := by simp) : Ev g sc n (.List es p) ρ σ (.cell σ₁.length) (σ₁ ++ [.list xs]) := by
  refine .mk ?_
  intro env A R P δ s Q O hA I h
  refine wpAny_List_spliced (h1.run env A R P δ s _ O hA I fun vs P₁ δ₁ hh₁ tk₁ le₁ pr₁ I₁ s₁ => ⟨by rw [s₁.length, sizeLine_eq]; exact hz, ?_⟩)
  have I₂ := (I₁.grows (h' := hh₁.push { cls := .type "list", data := .seq vs.toArray }) fun b o e => Heap.get?_push_of_some _ e).newCell (o := .list xs) (I₁.free (get_size_none hh₁)) ⟨vs, ⟨0, Heap.get?_push_size _ rfl⟩, s₁⟩
  refine h _ P₁ (δ₁ ++ [hh₁.objs.size]) _ tk₁ le₁ (pr₁.trans (List.prefix_append _ _)) I₂ (.cell _ _ ?_)
  rw [← I₁.len]; simp
end
end Mine
end
section
open PySem PySem.W PyProof.Rows PySem.Calls PySem.SeqAt
set_option Elab.async false
set_option linter.unusedVariables false
set_option maxRecDepth 100000
namespace Mine
theorem mro_map : mroOf (.type "map") = pure [.type "map", .type "object"] := by rw [mroOf_type]; kernel_rfl
theorem map_new : typeLookup (.type "map") "__new__" = pure (some (.builtin "map.__new__")) := by rw [typeLookup_type, builtinLookup_eq_fast]; kernel_rfl
theorem slot_map_init : Slot "map" "__init__" "object.__init__" :=
  .of (owner := "object") (n := "__init__") (by rw [typeLookup_type, builtinLookup_eq_fast]; kernel_rfl) (by decide +kernel) (by decide +kernel) (by decide +kernel)
    (by first | exact .inl (by decide +kernel) | exact .inr (by decide +kernel)) (by rw [isSubtype_type]; kernel_rfl)
theorem slot_map_next : Slot "map" "__next__" "map.__next__" :=
  .of (owner := "map") (n := "__next__") (by rw [typeLookup_type, builtinLookup_eq_fast]; kernel_rfl) (by decide +kernel) (by decide +kernel) (by decide +kernel)
    (by first | exact .inl (by decide +kernel) | exact .inr (by decide +kernel)) (by rw [isSubtype_type]; kernel_rfl)
theorem slot_map_iter : Slot "map" "__iter__" "map.__iter__" :=
  .of (owner := "map") (n := "__iter__") (by rw [typeLookup_type, builtinLookup_eq_fast]; kernel_rfl) (by decide +kernel) (by decide +kernel) (by decide +kernel)
    (by first | exact .inl (by decide +kernel) | exact .inr (by decide +kernel)) (by rw [isSubtype_type]; kernel_rfl)
theorem called_map : TypeCalled "map" "map.__new__" "object.__init__" :=
  ⟨by decide +kernel, by decide +kernel, ⟨_, _, mro_map⟩, madeBy_type mro_map map_new (by decide +kernel), by decide +kernel, by rw [isSubtype_type]; kernel_rfl, slot_map_init⟩
theorem map_call_2 (a b : Value) : checkTypeCall "map" ⟨[a, b], []⟩ = pure () := by kernel_rfl
theorem map_newcall_2 (a b : Value) : checkBuiltinCall "map.__new__" ⟨[.type "map", a, b], []⟩ = pure () := by kernel_rfl
theorem entry_map_new : entryFor table "map.__new__" = some Builtin.«map.__new__» := entryFor_of_tree (by kernel_rfl)
theorem entry_map_next : entryFor table "map.__next__" = some Builtin.«map.__next__» := entryFor_of_tree (by kernel_rfl)
theorem entry_map_iter : entryFor table "map.__iter__" = some Builtin.«dict_keyiterator.__iter__» :=
  entryFor_alias (id' := "dict_keyiterator.__iter__") (by rw [fastTable_eq_tree]; kernel_rfl) rfl (by decide +kernel) (by rw [fastTable_eq_tree]; kernel_rfl)
theorem args_map_next (a : Value) : argsOk "map.__next__" ⟨[a], []⟩ := by unfold argsOk; kernel_rfl
theorem args_map_iter (a : Value) : argsOk "map.__iter__" ⟨[a], []⟩ := by unfold argsOk; kernel_rfl
theorem sub_map : isSubtype (.type "map") (.type "map") = pure true := by rw [isSubtype_type]; kernel_rfl
theorem map_nolen : typeLookup (.type "map") "__len__" = pure none := by rw [typeLookup_type, builtinLookup_eq_fast]; kernel_rfl
theorem map_nohint : typeLookup (.type "map") "__length_hint__" = pure none := by rw [typeLookup_type, builtinLookup_eq_fast]; kernel_rfl

/-- the heap with a map in it -/
noncomputable def mapH (h : Heap) (f l : Addr) : Heap := ((h.push { cls := .type "list_iterator", data := .fields #[.ref l, .int 0 0] }).push { cls := .type "tuple", data := .seq #[.ref h.objs.size] }).push { cls := .type "map", data := .fields #[.ref (h.push { cls := .type "list_iterator", data := .fields #[.ref l, .int 0 0] }).objs.size, .ref f] }

theorem meets_map_new (f l : Addr) (xs : Array Value) :
    Meets (Builtin.«map.__new__» ⟨[.type "map", .ref f, .ref l], []⟩) (fun _ R s => s.heap.IsList l xs ∧ R (.ok (.ret (.ref ((s.heap.push { cls := .type "list_iterator", data := .fields #[.ref l, .int 0 0] }).push { cls := .type "tuple", data := .seq #[.ref s.heap.objs.size] }).objs.size))) { s with heap := mapH s.heap f l }) :=
  .of_wp fun prog w A R s h => by
    obtain ⟨hp, g, d, tk, os⟩ := s; obtain ⟨hl, h⟩ := h
    have hsub := sub_map
    have hL : Heap.IsList (Shared.heap ⟨hp, g, d, tk, os⟩) l xs := hl
    wp_walk using wpAny_pyIter_list hL
    exact ⟨_, rfl, h⟩

structure MapAt (h : Heap) (m T I f l : Addr) (vs : List Value) (i : Nat) : Prop where
  map : h.get? m = some { cls := .type "map", data := .fields #[.ref T, .ref f] }
  tup : h.get? T = some { cls := .type "tuple", data := .seq #[.ref I] }
  it : h.IsListIter I l i
  lst : h.IsList l vs.toArray

section
variable {prog : Program} {w : World} {A : Around} {s : Shared} {m T I f l : Addr} {vs : List Value} {i : Nat}
theorem map_next_item {x : Value} {Q : Option Value → Shared → Prop} (D : MapAt s.heap m T I f l vs i) (hx : vs[i]? = some x)
    (hc : ∀ h', h'.IsListIter I l (i + 1) → Heap.SameBut I s.heap h' → wpAny (model prog w) A.in1 (call (.ref f) [x]) (fun r s' => Q (some r) s') NoE { s with heap := h' }) : wpAny (model prog w) A (pyNext (.ref m)) Q NoE s := by
  have hT : s.TypeIs (.ref m) "map" := ⟨_, D.map, rfl⟩
  have hmI : m ≠ I := by rintro rfl; obtain ⟨o, e, c, _⟩ := D.it; rw [D.map] at e; cases e; simp at c
  unfold pyNext
  refine wpAny_bind (wpAny_attempt (wpAny_callSpecial?_slot (name := Str.ofString "__next__") hT slot_map_next (wpAny_call_entry slot_map_next hT entry_map_next ?_ (args_map_next _))))
  show wpAny _ _ (field (.ref m) 0 >>= _) _ _ _
  refine wpAny_bind (wpAny_field D.map rfl (x := .ref T) rfl ?_)
  refine wpAny_bind (wpAny_seqItems D.tup rfl ?_)
  simp only [← Array.forIn_toList, List.forIn_cons, List.forIn_nil]
  refine wpAny_bind (wpAny_bind (wpAny_bind (wpAny_holding (wpAny_nextOf_list_item D.it D.lst (by simpa using hx) fun h₁ hi₁ hs₁ => ?_))))
  refine wpAny_pure (wpAny_pure ?_)
  have hm₁ : h₁.get? m = some _ := (hs₁.2 m hmI).trans D.map
  refine wpAny_bind (wpAny_field hm₁ rfl (x := .ref f) rfl ?_)
  refine wpAny_bind (wpAny_holding (wpAny_mono (hc h₁ hi₁ hs₁) (fun r s' h => ?_) fun _ _ e => e.elim))
  exact wpAny_bind (wpAny_letGo (wpAny_pure ⟨_, rfl, wpAny_pure h⟩))
theorem map_next_end {Q : Option Value → Shared → Prop} (hh : A.handled = none) (D : MapAt s.heap m T I f l vs i) (hx : vs[i]? = none)
    (hQ : ∀ h', Heap.ExtBut I s.heap h' → Q none { s with heap := h' }) : wpAny (model prog w) A (pyNext (.ref m)) Q NoE s := by
  have hT : s.TypeIs (.ref m) "map" := ⟨_, D.map, rfl⟩
  unfold pyNext
  refine wpAny_bind (wpAny_attempt (wpAny_callSpecial?_slot (name := Str.ofString "__next__") hT slot_map_next (wpAny_call_entry slot_map_next hT entry_map_next ?_ (args_map_next _))))
  show wpAny _ _ (field (.ref m) 0 >>= _) _ _ _
  refine wpAny_bind (wpAny_field D.map rfl (x := .ref T) rfl ?_)
  refine wpAny_bind (wpAny_seqItems D.tup rfl ?_)
  simp only [← Array.forIn_toList, List.forIn_cons, List.forIn_nil]
  refine wpAny_bind (wpAny_bind (wpAny_bind (wpAny_holding (wpAny_nextOf_list_end hh D.it D.lst (by simpa using hx) fun h₁ e hs₁ he => ?_))))
  obtain ⟨o, ho, hc⟩ := he
  refine wpAny_bind (wpAny_isInstance (T := "StopIteration") (b := true) ⟨o, ho, hc⟩ isSubtype_stop ?_)
  exact wpAny_pure (hQ _ hs₁)
theorem map_iter {Q : Value → Shared → Prop} (D : MapAt s.heap m T I f l vs i) (h : Q (.ref m) s) : wpAny (model prog w) A (pyIter (.ref m)) Q NoE s := by
  have hT : s.TypeIs (.ref m) "map" := ⟨_, D.map, rfl⟩
  refine wpAny_pyIter_slot hT slot_map_iter (wpAny_call_entry slot_map_iter hT entry_map_iter ?_ (args_map_iter _))
  show wpAny _ _ (ret (.ref m)) _ _ s
  exact wpAny_pure ⟨_, rfl, "map", _, hT, slot_map_next.lookup, h⟩
end

section
variable {g : Glo} {R : RS} {P P' : PS} {δ δ' : List Addr} {env cenv : Env} {ρ ρ' ρc ρ₁ ρ₂ : Loc} {σ σ' σ₁ σ₂ σ₃ : List MO} {h h' : Heap} {sc : Scope} {n : Nat} {Φ : Out → Prop} {rest : List Stmt}

theorem MapAt.noncell {m T I f l : Addr} {vs : List Value} {i : Nat} (D : MapAt h m T I f l vs i) : ∀ b ∈ [m, T, I], ∃ o, h.get? b = some o ∧ ∀ v, o.data ≠ .cell v := fun b hb => by
  simp at hb
  rcases hb with rfl | rfl | rfl
  · exact ⟨_, D.map, fun v c => by cases c⟩
  · exact ⟨_, D.tup, fun v c => by cases c⟩
  · obtain ⟨o, e, _, hd⟩ := D.it
    exact ⟨o, e, fun v c => by rw [hd] at c; cases c⟩

theorem map_loop {f S m T I l : Addr} {oL : Obj} {nL : Nat} {xs : List V} {vs : List Value} {res : Value} {A : Around} {Rr : Result → Shared → Prop}
    (hop : ∀ x ∈ xs, Op g n σ [x] (fun us => call (.ref f) us) (fun P δ v => g.Sees P δ v x) σ) (hz : xs.length ≤ 16777216) (hA : AOk A (n + 2) R env) (hS : S ∉ [m, T, I]) (hcl : oL.cls = .type "list") (hdl : oL.data = .seq vs.toArray nL) :
    ∀ (k i : Nat) (s : Shared) (P : PS) (δ : List Addr) (acc : List Value) (c : Nat), xs.length - i = k → i ≤ xs.length → Inv g R P δ env ρ σ s.heap → (∀ b ∈ S :: [m, T, I], Free R P δ env b) → MapAt s.heap m T I f l vs i →
      s.heap.get? S = some { cls := .type "list", data := .seq acc.toArray c } → g.SeesL P δ acc (xs.take i) → g.SeesL P δ vs xs → P l oL →
      (∀ P' δ' h' tk' acc' c', (∀ b o, P b o → P' b o) → δ <+: δ' → Inv g R P' δ' env ρ σ h' → h'.get? S = some { cls := .type "list", data := .seq (acc' : List Value).toArray c' } → g.SeesL P' δ' acc' xs → Rr (.ok (.ret res)) { s with heap := h', toks := tk' }) →
      codeAny (model g.prog g.w) A (.builtin "list.extend.loop" ⟨[.ref S, .ref m, res], []⟩) Rr s := by
  intro k
  induction k with
  | zero =>
    intro i s P δ acc c hk hi I' hf D hSo hacc hvs hPl hR
    have hin : i = xs.length := by omega
    refine codeAny_builtin F.entry_extend_loop ?_
    rw [Around.under_plainId F.plain_extend_loop _]
    show wpAny _ A.in1 (pyNext (.ref m) >>= _) _ _ s
    refine wpAny_bind (wpAny_mono (map_next_end (Q := fun r s' => r = none ∧ Rr (.ok (.ret res)) s') hA.handled D (by rw [hin]; rw [← hvs.length]; simp) fun h' hx => ⟨rfl, ?_⟩) (fun r s' hr => ?_) fun _ _ e => e.elim)
    · have hfI := hf I (by simp)
      have hSI : S ≠ I := fun e => hS (by simp [e])
      have I₂ : Inv g R P δ env ρ σ h' := I'.keeps fun b o q e => hx b o (hfI.keep q) e
      rw [hin, List.take_length] at hacc
      exact hR P δ h' s.toks acc c (fun _ _ z => z) (List.prefix_refl _) I₂ (hx S _ hSI hSo) hacc
    · obtain ⟨rfl, hr⟩ := hr
      exact wpAny_pure hr
  | succ k ih =>
    intro i s P δ acc c hk hi I' hf D hSo hacc hvs hPl hR
    have hlt : i < xs.length := by omega
    have hlv := hvs.length
    have hv : vs[i]? = some (vs[i]'(by omega)) := List.getElem?_eq_getElem (by omega)
    have hx : xs[i]? = some xs[i] := List.getElem?_eq_getElem hlt
    refine codeAny_builtin F.entry_extend_loop ?_
    rw [Around.under_plainId F.plain_extend_loop _]
    show wpAny _ A.in1 (pyNext (.ref m) >>= _) _ _ s
    have hfI := hf I (by simp)
    have hSI : S ≠ I := fun e => hS (by simp [e])
    have A2 : AOk A.in1.in1 n R env := hA.in1.in1
    refine wpAny_bind (wpAny_mono (map_next_item (Q := fun r s' => ∃ v P₁ δ₁ h₁ tk₁, r = some v ∧ s' = { s with heap := h₁, toks := tk₁ } ∧ (∀ b o, P b o → P₁ b o) ∧ δ <+: δ₁ ∧ Inv g R P₁ δ₁ env ρ σ h₁ ∧ (∀ b ∈ S :: [m, T, I], Free R P₁ δ₁ env b) ∧ MapAt h₁ m T I f l vs (i + 1) ∧
        h₁.get? S = some { cls := .type "list", data := .seq acc.toArray c } ∧ g.Sees P₁ δ₁ v xs[i]) D hv fun h' hit hs => ?_) (fun r s' hr => ?_) fun _ _ e => e.elim)
    · have I₂ : Inv g R P δ env ρ σ h' := I'.sameBut hfI hs
      have ne : ∀ b, b ≠ I → ∀ o, s.heap.get? b = some o → h'.get? b = some o := fun b hb o e => (hs.2 b hb).trans e
      have hmI : m ≠ I := by rintro rfl; obtain ⟨o, e, c, _⟩ := D.it; rw [D.map] at e; cases e; simp at c
      have hTI : T ≠ I := by rintro rfl; obtain ⟨o, e, c, _⟩ := D.it; rw [D.tup] at e; cases e; simp at c
      have D' : MapAt h' m T I f l vs (i + 1) := ⟨ne m hmI _ D.map, ne T hTI _ D.tup, hit, ⟨oL, I₂.keepP _ _ hPl, hcl, nL, hdl⟩⟩
      have hS' := ne S hSI _ hSo
      have lv : ∀ b ∈ S :: [m, T, I], ∃ o, h'.get? b = some o ∧ ∀ v, o.data ≠ .cell v := fun b hb => by
        rcases List.mem_cons.mp hb with rfl | hb
        · exact ⟨_, hS', fun v c => by cases c⟩
        · exact D'.noncell b hb
      refine hop xs[i] (List.getElem_mem hlt) env ρ A.in1.in1 (held R (S :: [m, T, I]) h') P δ { s with heap := h' } _ [vs[i]'(by omega)] A2.held (I₂.hold hf) (.cons (hvs.2 i _ _ hv hx) .nil) fun v P₁ δ₁ h₁ tk₁ le₁ pr₁ I₃ hs₁ => ?_
      have same : ∀ b ∈ S :: [m, T, I], ∀ o, h'.get? b = some o → h₁.get? b = some o := fun b hb o e => I₃.keepR b o (.inr ⟨hb, e⟩)
      refine ⟨v, P₁, δ₁, h₁, tk₁, rfl, rfl, le₁, pr₁, I₃.unhold I'.base fun b hb o e => let ⟨o', e', c⟩ := lv b hb; by rw [e'] at e; cases e; exact c, I₃.still I'.base hf fun b hb => let ⟨o, e, _⟩ := lv b hb; ⟨o, e⟩, ?_, same S (by simp) _ hS', hs₁⟩
      exact ⟨same m (by simp) _ D'.map, same T (by simp) _ D'.tup, let ⟨o, e, r⟩ := D'.it; ⟨o, same I (by simp) _ e, r⟩, ⟨oL, I₃.keepP _ _ (le₁ _ _ hPl), hcl, nL, hdl⟩⟩
    · obtain ⟨v, P₁, δ₁, h₁, tk₁, rfl, rfl, le₁, pr₁, I₃, hf₁, D₁, hS₁, hv₁⟩ := hr
      show wpAny _ A.in1 (updateSeq S (·.push v) >>= _) _ _ _
      have hla := hacc.length
      rw [List.length_take] at hla
      refine wpAny_bind (wpAny_updateSeq hS₁ rfl (wpAny_pure ⟨plainId_quiet F.plain_extend_loop _, ?_⟩) (by rw [sizeLine_eq]; simp; omega) (by rw [sizeLine_eq]; simp; omega))
      have hsb : Heap.SameBut S h₁ (h₁.update S (Obj.mapSeq (·.push v))) := Heap.SameBut.update ..
      have hfS := hf₁ S (by simp)
      have ne : ∀ b ∈ [m, T, I], b ≠ S := fun b hb e => hS (e ▸ hb)
      have hget : (h₁.update S (Obj.mapSeq (·.push v))).get? S = some { cls := .type "list", data := .seq (acc ++ [v]).toArray (c + 1) } := by
        rw [Heap.get?_update_self _ hS₁ (by rw [Obj.mapSeq_push_plain]; rfl), Obj.mapSeq_push_plain]
        simp
      have I₄ := I₃.sameBut hfS hsb
      refine ih (i + 1) { s with heap := _, toks := tk₁ } P₁ δ₁ (acc ++ [v]) (c + 1) (by omega) hlt I₄ hf₁ ⟨(hsb.2 m (ne m (by simp))).trans D₁.map, (hsb.2 T (ne T (by simp))).trans D₁.tup, let ⟨o, e, r⟩ := D₁.it; ⟨o, (hsb.2 I (ne I (by simp))).trans e, r⟩, ⟨oL, I₄.keepP _ _ (le₁ _ _ hPl), hcl, nL, hdl⟩⟩ hget ?_ (hvs.mono le₁ pr₁) (le₁ _ _ hPl) fun P' δ' h' tk' acc' c' le' pr' I'' hS'' hs'' => ?_
      · rw [List.take_add_one, hx]
        exact (hacc.mono le₁ pr₁).append (.cons hv₁ .nil)
      · exact hR P' δ' h' tk' acc' c' (fun b o z => le' b o (le₁ b o z)) (pr₁.trans pr') I'' hS'' hs''
end
end Mine
end
section
open PySem PySem.W PyProof.Rows PySem.Calls PySem.SeqAt
open AutoSeq1 (wpAny_loadPart')
set_option Elab.async false
set_option linter.unusedVariables false
set_option maxRecDepth 100000
namespace Mine
section
variable {prog : Program} {w : World} {A : Around} {E : Value → Shared → Prop} {s : Shared}
theorem code_tuple_new_of {a : Addr} {K : List Value → Shared → Prop} {Q₁ : Value → Shared → Prop} (hT : s.TypeIs (.ref a) "map") (hcoll : ∀ (Q' : List Value → Shared → Prop), (∀ l s', K l s' → Q' l s') → wpAny (model prog w) A.in1 (collect (.ref a)) Q' E s)
    (h : ∀ l s', K l s' → l.length ≤ sizeLine ∧ Q₁ (.ref s'.heap.objs.size) { s' with heap := s'.heap.push { cls := .type "tuple", data := .seq l.toArray } }) :
    codeAny (model prog w) A (.call (.builtin "tuple.__new__") ⟨[.type "tuple", .ref a], []⟩) (wants Q₁ E) s := by
  refine codeAny_of_tree ?_
  show wpAny _ A.in1 (do checkBuiltinCall "tuple.__new__" ⟨[.type "tuple", .ref a], []⟩; again (.builtin "tuple.__new__" ⟨[.type "tuple", .ref a], []⟩)) _ _ s
  refine wpAny_bind (wpAny_of_eq (F.newCall_tuple_1 _) (wpAny_pure ⟨plainId_quiet F.plain_tuple_new _, codeAny_builtin F.entry_tuple_new ?_⟩))
  rw [Around.under_plainId F.plain_tuple_new _]
  have hsub := sub_tuple_self
  have hinit := init_tuple_lookup
  have hmh := madeHere_tuple
  wp_walk using wpAny_typeOf hT, hcoll
  intro l s' hk
  obtain ⟨h1, h2⟩ := h l s' hk
  show wpAny _ _ (Builtin.Tuple.tupleExact l.toArray >>= fun v => ret v) _ _ _
  unfold Builtin.Tuple.tupleExact
  refine wpAny_bind (wpAny_newObj_type ?_ (by show l.toArray.size ≤ sizeLine; simpa using h1))
  exact wpAny_pure h2
end

section
variable {g : Glo} {R : RS} {P P' : PS} {δ δ' : List Addr} {env cenv : Env} {ρ ρ' ρc ρ₁ ρ₂ : Loc} {σ σ' σ₁ σ₂ σ₃ : List MO} {h h' : Heap} {sc : Scope} {n : Nat} {Φ : Out → Prop} {rest : List Stmt}

theorem wp_collect_map {f m T I l : Addr} {oL : Obj} {nL : Nat} {xs : List V} {vs : List Value} {A : Around} {s : Shared} {Q : List Value → Shared → Prop}
    (hop : ∀ x ∈ xs, Op g n σ [x] (fun us => call (.ref f) us) (fun P δ v => g.Sees P δ v x) σ) (hz : xs.length ≤ 16777216) (hA : AOk A (n + 2) R env) (hcl : oL.cls = .type "list") (hdl : oL.data = .seq vs.toArray nL)
    (I' : Inv g R P δ env ρ σ s.heap) (hf : ∀ b ∈ [m, T, I], Free R P δ env b) (D : MapAt s.heap m T I f l vs 0) (hvs : g.SeesL P δ vs xs) (hPl : P l oL)
    (hQ : ∀ us P' δ' h' tk', (∀ b o, P b o → P' b o) → δ <+: δ' → Inv g R P' δ' env ρ σ h' → g.SeesL P' δ' us xs → Q us { s with heap := h', toks := tk' }) :
    wpAny (model g.prog g.w) A (collect (.ref m)) Q NoE s := by
  have hT : s.TypeIs (.ref m) "map" := ⟨_, D.map, rfl⟩
  have hmlt := Heap.lt_size D.map
  have hTlt := Heap.lt_size D.tup
  have hIlt : I < s.heap.objs.size := by obtain ⟨o, e, _⟩ := D.it; exact Heap.lt_size e
  have hSm : s.heap.objs.size ∉ [m, T, I] := fun hm => by
    simp at hm
    rcases hm with e | e | e
    · exact Nat.lt_irrefl _ (e ▸ hmlt)
    · exact Nat.lt_irrefl _ (e ▸ hTlt)
    · exact Nat.lt_irrefl _ (e ▸ hIlt)
  unfold collect
  refine wpAny_bind (wpAny_runValue (codeAny_builtin F.entry_proto_collect ?_))
  rw [Around.under_plainId F.plain_proto_collect _]
  show wpAny _ A.in1 (newList [] >>= fun l => again (.builtin "list.__iadd__" ⟨[l, .ref m], []⟩)) _ _ s
  refine wpAny_bind (wpAny_newObj_type ?_)
  refine wpAny_pure ⟨plainId_quiet F.plain_list_iadd _, codeAny_builtin F.entry_list_iadd ?_⟩
  rw [Around.under_plainId F.plain_list_iadd _]
  have keep : ∀ b o, s.heap.get? b = some o → (s.heap.push { cls := .type "list", data := .seq ([] : List Value).toArray }).get? b = some o := fun b o e => Heap.get?_push_of_some _ e
  have D₁ : MapAt (s.heap.push { cls := .type "list", data := .seq ([] : List Value).toArray }) m T I f l vs 0 := ⟨keep _ _ D.map, keep _ _ D.tup, let ⟨o, e, r⟩ := D.it; ⟨o, keep _ _ e, r⟩, D.lst.push _⟩
  have hT₁ : ({ s with heap := s.heap.push { cls := .type "list", data := .seq ([] : List Value).toArray } } : Shared).TypeIs (.ref m) "map" := ⟨_, D₁.map, rfl⟩
  show wpAny _ A.in1 (Builtin.List.listExtendWith (.ref s.heap.objs.size) (.ref m) (.ref s.heap.objs.size)) _ _ _
  unfold Builtin.List.listExtendWith
  refine wpAny_bind (wpAny_typeOf hT₁ ?_)
  have h1 : Builtin.List.listSameRef (.ref s.heap.objs.size) (.ref m) = false := by
    have : s.heap.objs.size ≠ m := fun e => hSm (by rw [e]; simp)
    simp [Builtin.List.listSameRef, this]
  have h2 : (Value.type "map" == Value.type "list") = false := by decide
  have h3 : (Value.type "map" == Value.type "tuple") = false := by decide
  simp only [h1, h2, h3, Bool.or_false, Bool.false_eq_true, if_false]
  refine wpAny_bind (wpAny_mono (map_iter D₁ (Q := fun v s' => v = .ref m ∧ s' = _) ⟨rfl, rfl⟩) (fun v s' hv => ?_) fun _ _ e => e.elim)
  obtain ⟨rfl, rfl⟩ := hv
  refine wpAny_bind (wpAny_holding ?_)
  unfold Builtin.List.listLengthHint
  refine wpAny_bind (wpAny_specialOf hT₁ map_nolen ?_)
  show wpAny _ A.in1 (specialOf (Value.ref m) (Str.ofString "__length_hint__") >>= _) _ _ _
  refine wpAny_bind (wpAny_specialOf hT₁ map_nohint ?_)
  refine wpAny_pure ?_
  have hSo := Heap.get?_push_size s.heap (o := { cls := .type "list", data := .seq ([] : List Value).toArray }) rfl
  generalize hH : s.heap.push { cls := .type "list", data := .seq ([] : List Value).toArray } = H at *
  simp only [Bool.true_or, if_true]
  refine wpAny_bind (wpAny_rule (wpAny_bind ?_))
  show wpAny _ A.in1 (updateSeq s.heap.objs.size (·.push .none) >>= fun _ => updateSeq s.heap.objs.size (·.pop)) _ _ _
  refine wpAny_bind (wpAny_updateSeq hSo rfl ?_)
  have hS2 := Heap.get?_update_self (Obj.mapSeq (·.push Value.none)) hSo rfl
  refine wpAny_updateSeq hS2 rfl ?_
  have hS3 : ((H.update s.heap.objs.size (Obj.mapSeq (·.push Value.none))).update s.heap.objs.size (Obj.mapSeq (·.pop))).get? s.heap.objs.size = some { cls := .type "list", data := .seq ([] : List Value).toArray 2 } := Heap.get?_update_self (Obj.mapSeq (·.pop)) hS2 rfl
  have sb : ∀ b, b ≠ s.heap.objs.size → ((H.update s.heap.objs.size (Obj.mapSeq (·.push Value.none))).update s.heap.objs.size (Obj.mapSeq (·.pop))).get? b = H.get? b := fun b hb => (Heap.get?_update_other _ _ (Ne.symm hb)).trans (Heap.get?_update_other _ _ (Ne.symm hb))
  generalize (H.update s.heap.objs.size (Obj.mapSeq (·.push Value.none))).update s.heap.objs.size (Obj.mapSeq (·.pop)) = H3 at hS3 sb ⊢
  have fS := I'.free (get_size_none s.heap)
  have I3 : Inv g R P δ env ρ σ H3 := (I'.grows keep).keeps fun b o k e => (sb b (fS.keep k)).trans e
  have ne : ∀ b ∈ [m, T, I], b ≠ s.heap.objs.size := fun b hb e => hSm (e ▸ hb)
  have D3 : MapAt H3 m T I f l vs 0 := ⟨(sb m (ne m (by simp))).trans D₁.map, (sb T (ne T (by simp))).trans D₁.tup, let ⟨o, e, r⟩ := D₁.it; ⟨o, (sb I (ne I (by simp))).trans e, r⟩, ⟨oL, I3.keepP _ _ hPl, hcl, nL, hdl⟩⟩
  have loop := map_loop (Rr := fun r s' => match r with
      | .ok (.ret v) => v = .ref s.heap.objs.size ∧ ∃ P' δ' h' tk' acc' c', s' = { s with heap := h', toks := tk' } ∧ (∀ b o, P b o → P' b o) ∧ δ <+: δ' ∧ Inv g R P' δ' env ρ σ h' ∧ h'.get? s.heap.objs.size = some { cls := .type "list", data := .seq (acc' : List Value).toArray c' } ∧ g.SeesL P' δ' acc' xs
      | _ => False) (res := .ref s.heap.objs.size) hop hz hA hSm hcl hdl xs.length 0 { s with heap := H3 } P δ [] 2 rfl (Nat.zero_le _) I3
      (fun b hb => by rcases List.mem_cons.mp hb with rfl | hb; exact fS; exact hf b hb) D3 hS3 .nil hvs hPl
      fun P' δ' h' tk' acc' c' le pr I'' hS'' hs'' => ⟨rfl, P', δ', h', tk', acc', c', rfl, le, pr, I'', hS'', hs''⟩
  refine wpAny_pure ⟨plainId_quiet F.plain_extend_loop _, codeAny_mono loop fun r s' hr => ?_⟩
  cases r with
  | error e => exact hr.elim
  | ok fl =>
    cases fl with
    | ret v =>
      obtain ⟨rfl, P', δ', h', tk', acc', c', rfl, le, pr, I'', hS'', hs''⟩ := hr
      show wpAny _ A (load s.heap.objs.size >>= _) _ _ _
      refine wpAny_bind (wpAny_load hS'' ?_)
      exact wpAny_pure (by simpa using hQ acc' P' δ' h' tk' le pr I'' hs'')
    | _ => exact hr.elim

/-- tuple(map(f, xs)), where f gives each thing back as it is -/
theorem ev_tmap {pt pm' pf pos pos' : Pos} {f : Str} {e : Expr} {xs : List V} {m : Nat} (h1 : Ev g sc n e ρ σ (.list xs) σ₁) (hF : ∀ x ∈ xs, Fn g m f [x] σ₁ x σ₁) (hne : xs ≠ []) (hz : xs.length ≤ 16777216) (hm : m + 5 ≤ n := by decide) (he : isStar e = false := by rfl)
    (ht : isGlob sc "tuple" = true := by decide +kernel) (hmap : isGlob sc "map" = true := by decide +kernel) (hf : isGlob sc f = true := by decide +kernel) (hb : g.mg "tuple" = none := by first | assumption | exact (‹Has g _›).blt _ (by decide +kernel)) (hb' : g.mg "map" = none := by first | assumption | exact (‹Has g _›).blt _ (by decide +kernel)) :
    Ev g sc n (.Call (.Name "tuple" pt) [.Call (.Name "map" pm') [.Name f pf, e] [] pos'] [] pos) ρ σ (.tup xs) σ₁ := .mk fun env A R P δ s Q O hA I h => by
  obtain ⟨x0, hx0⟩ := List.exists_mem_of_ne_nil xs hne
  obtain ⟨fa, fo, ffd, ef, eo, ed, _⟩ := hF x0 hx0
  have hop : ∀ x ∈ xs, Op g m σ₁ [x] (fun us => call (.ref fa) us) (fun P δ v => g.Sees P δ v x) σ₁ := fun x hx => by
    obtain ⟨a', o', fd', e1, _, _, e4⟩ := hF x hx
    rw [ef] at e1; cases e1
    exact e4
  have hp1 : noStar [Expr.Call (.Name "map" pm') [.Name f pf, e] [] pos'] = true := rfl
  have hp2 : noStar [Expr.Name f pf, e] = true := by unfold noStar; rw [List.all_cons, List.all_cons, he]; rfl
  refine wpAny_Call_NameR (wp_builtin O I ht hb (v := .type "tuple") (by decide +kernel) (by decide) (PySem.callWith_type (noStar_any hp1) (evalArgs_first (noStar_first hp1) ?_)))
  rw [starEach_cons (by rfl)]
  refine spliced_cons ?_
  refine wpAny_Call_NameR (wp_builtin O I hmap hb' (v := .type "map") (by decide +kernel) (by decide) (PySem.callWith_type (noStar_any hp2) (evalArgs_first (noStar_first hp2) ?_)))
  refine (evl_cons (ev_fn hf ef) (evl_cons h1 evl_nil he) rfl).run env A R P δ s _ O hA I fun us P₁ δ₁ hh₁ tk₁ le₁ pr₁ I₁ s₁ => ?_
  obtain ⟨v, u, rfl, sv, su⟩ := s₁.two
  obtain ⟨a', rfl, ea'⟩ := sv.tells
  rw [ef] at ea'; cases ea'
  obtain ⟨l, oL, vs, nL, rfl, hPl, hcl, hdl, hvs⟩ := su.tells
  have hlist : hh₁.IsList l vs.toArray := ⟨oL, I₁.keepP _ _ hPl, hcl, nL, hdl⟩
  refine callType_new called_map (by decide) (map_call_2 _ _) (map_newcall_2 _ _) (fun obj => F.args_object_init_3 obj _ _) entry_map_new (meets_map_new fa l vs.toArray) ⟨hlist, ?_⟩
  have z1 : (hh₁.push { cls := .type "list_iterator", data := .fields #[.ref l, .int 0 0] }).objs.size = hh₁.objs.size + 1 := Heap.size_push ..
  have z2 : ((hh₁.push { cls := .type "list_iterator", data := .fields #[.ref l, .int 0 0] }).push { cls := .type "tuple", data := .seq #[.ref hh₁.objs.size] }).objs.size = hh₁.objs.size + 2 := by rw [Heap.size_push, z1]
  have gm : (mapH hh₁ fa l).get? ((hh₁.push { cls := .type "list_iterator", data := .fields #[.ref l, .int 0 0] }).push { cls := .type "tuple", data := .seq #[.ref hh₁.objs.size] }).objs.size = some _ := Heap.get?_push_size _ rfl
  have gt : (mapH hh₁ fa l).get? (hh₁.push { cls := .type "list_iterator", data := .fields #[.ref l, .int 0 0] }).objs.size = some _ := Heap.get?_push_of_some _ (Heap.get?_push_size _ rfl)
  have gi : (mapH hh₁ fa l).get? hh₁.objs.size = some _ := Heap.get?_push_of_some _ (Heap.get?_push_of_some _ (Heap.get?_push_size _ rfl))
  have keep : ∀ b o, hh₁.get? b = some o → (mapH hh₁ fa l).get? b = some o := fun b o e => Heap.get?_push_of_some _ (Heap.get?_push_of_some _ (Heap.get?_push_of_some _ e))
  rw [z2] at gm
  rw [z1] at gm gt
  show _ ∧ _
  rw [z2]
  refine ⟨⟨_, gm, rfl⟩, ?_⟩
  refine spliced_nil ?_
  have D : MapAt (mapH hh₁ fa l) (hh₁.objs.size + 2) (hh₁.objs.size + 1) hh₁.objs.size fa l vs 0 := ⟨gm, gt, ⟨_, gi, rfl, rfl⟩, ⟨oL, keep _ _ (I₁.keepP _ _ hPl), hcl, nL, hdl⟩⟩
  have I₂ := I₁.grows keep
  have hfr : ∀ b ∈ [hh₁.objs.size + 2, hh₁.objs.size + 1, hh₁.objs.size], Free R P₁ δ₁ env b := fun b hb => by
    simp at hb
    rcases hb with rfl | rfl | rfl
    · exact I₁.free (get_ge hh₁ (Nat.le_add_right _ 2))
    · exact I₁.free (get_ge hh₁ (Nat.le_add_right _ 1))
    · exact I₁.free (get_size_none hh₁)
  have hA4 : AOk A.in1.in1 (m + 2) R env := ((hA.less (show m + 2 + 1 + 1 ≤ n by omega)).in1).in1
  refine callType_codes (Q₁ := fun obj s₁ => s₁.TypeIs obj "tuple" ∧ Q obj s₁) F.called_tuple (F.typeCall_tuple_1 _) F.entry_object_init
    (code_tuple_new_of (K := fun us s' => ∃ P' δ' h' tk', s' = { s with heap := h', toks := tk' } ∧ (∀ b o, P₁ b o → P' b o) ∧ δ₁ <+: δ' ∧ Inv g R P' δ' env ρ σ₁ h' ∧ g.SeesL P' δ' us xs) ⟨_, gm, rfl⟩ (fun Q' hk => ?_) fun us s' hk => ?_) fun obj s₁ h₁ => ?_
  · exact wp_collect_map (s := { s with heap := mapH hh₁ fa l, toks := tk₁ }) hop hz hA4 hcl hdl I₂ hfr D hvs hPl fun us P' δ' h' tk' le pr I' hs => hk us _ ⟨P', δ', h', tk', rfl, le, pr, I', hs⟩
  · obtain ⟨P', δ', h', tk', rfl, le, pr, I', hs⟩ := hk
    refine ⟨by rw [hs.length, sizeLine_eq]; exact hz, ⟨_, Heap.get?_push_size _ rfl, rfl⟩, ?_⟩
    exact h _ _ δ' (h'.push _) tk' (fun b o z => pin_le b o (le b o (le₁ b o z))) (pr₁.trans pr) (I'.pushPin _) (.mkTup pin_at rfl rfl (hs.mono pin_le (List.prefix_refl _)))
  · exact ⟨h₁.1, F.args_object_init_2 obj _, object_init_meets F.called_tuple.init.lookup F.called_tuple.made (by decide) g.prog g.w A.in1 _ s₁ ⟨h₁.1, rfl, h₁.2⟩⟩
end
end Mine
end
section
open PySem PySem.W PyProof.Rows PySem.Calls PySem.SeqAt PySem.Builtin PySem.Builtin.Str
set_option Elab.async false
set_option linter.unusedVariables false
set_option maxRecDepth 100000
namespace Mine
section
variable {g : Glo} {n : Nat} {σ : List MO}
theorem op_in_one {l : List UInt8} {c : UInt8} : Op2 g n σ (compareOp .In) (.tx .s [c]) (.tx .s l) (.bool (l.contains c)) σ := .of fun env ρ A R P δ s Q v u hA I hv hu h => by
  obtain ⟨t, rfl⟩ := hv.tells
  obtain ⟨u, rfl⟩ := hu.tells
  refine PySem.P.in_str ?_
  have e : (!(occurrences (S8 l) (S8 [c]) 0 (S8 l).length 1).isEmpty) = l.contains c := by
    show (!(occurrences (S8 l) ⟨#[c.toNat]⟩ 0 (S8 l).length 1).isEmpty) = _
    rw [StrLaws.found_one, S8_list, Bool.eq_iff_iff]
    simp only [decide_eq_true_eq, List.contains_iff_mem, List.mem_map]
    constructor
    · rintro ⟨x, hx, e⟩
      rw [UInt8.toNat_inj.mp e] at hx; exact hx
    · intro hx; exact ⟨c, hx, rfl⟩
  rw [e]
  exact stay s.toks I h (.bool _)
end
end Mine
end
section
open PySem PySem.W PyProof.Rows PySem.Calls PySem.SeqAt
set_option Elab.async false
set_option linter.unusedVariables false
set_option maxRecDepth 100000
namespace Mine
section
variable {g : Glo} {R : RS} {P P' : PS} {δ δ' : List Addr} {env cenv : Env} {ρ ρ' ρc ρ₁ ρ₂ : Loc} {σ σ' σ₁ σ₂ σ₃ : List MO} {h h' : Heap} {sc : Scope} {n : Nat} {Φ : Out → Prop} {rest : List Stmt}

/-- frames' slots may change -/
theorem Inv.slots (I : Inv g R P δ env ρ σ h) {S : List Addr} (hs : Heap.SlotsOnly S h h') (hS : ∀ b ∈ S, b = env.locals ∨ ∃ o, R.up b o) : Inv g R P δ env ρ σ h' := by
  have sL : slot env env.locals := .inl rfl
  have nex : ∀ b o, R.ex b o → b ∉ S := fun b o r hm => by
    rcases hS b hm with rfl | ⟨o', u⟩
    · exact I.offR _ o sL (.inl r)
    · exact I.part b o o' r u
  have nP : ∀ b o, P b o → b ∉ S := fun b o p hm => by
    rcases hS b hm with rfl | ⟨o', u⟩
    · exact I.offP _ o sL p
    · obtain ⟨q, hq⟩ := I.sep b o o' p (.inr u)
      exact I.part b q o' (I.base b q hq) u
  have nD : ∀ b ∈ δ, b ∉ S := fun b d hm => by
    rcases hS b hm with rfl | ⟨o', u⟩
    · exact I.offD _ sL d
    · exact I.dR b o' d (.inr u)
  have nC : ∀ x c, env.kindOf x = some .cell → env.cells.lookup x = some c → c ∉ S := fun x c hx hc hm => by
    rcases hS c hm with rfl | ⟨o', u⟩
    · exact I.nloc x hx hc
    · exact I.offR c o' (.inr ⟨x, hx, hc⟩) (.inr u)
  refine { I with keepR := fun b o r => (hs.2.1 b (nex b o r)).trans (I.keepR b o r), keepU := fun b o u => ?_, keepP := fun b o p => (hs.2.1 b (nP b o p)).trans (I.keepP b o p), loc := ?_, cel := fun x hx => ?_, objs := fun i a o ha ho => ?_ }
  · obtain ⟨sl, e⟩ := I.keepU b o u
    obtain ⟨sl', e'⟩ := hs.2.2 b _ e
    exact ⟨sl', e'⟩
  · obtain ⟨m, ⟨o, es, ep, ho, hd, r⟩, k⟩ := I.loc
    obtain ⟨sl, e⟩ := hs.2.2 _ o ho
    refine ⟨m, ⟨_, es, ep, e, hd, r⟩, fun x y hx => ?_⟩
    obtain ⟨v, hv, hl⟩ := k x y hx
    refine ⟨v, hv, ?_⟩
    rcases hl with hl | ⟨hk, c, hc, o', ho', hd'⟩ | hl
    · exact .inl hl
    · exact .inr (.inl ⟨hk, c, hc, o', (hs.2.1 c (nC x c hk hc)).trans ho', hd'⟩)
    · exact .inr (.inr hl)
  · obtain ⟨c, ov, hc, o', ho', hd'⟩ := I.cel x hx
    exact ⟨c, ov, hc, o', (hs.2.1 c (nC x c hx hc)).trans ho', hd'⟩
  · have hm : a ∈ δ := List.mem_of_getElem? ha
    exact (I.objs i a o ha ho).mono (fun _ _ z => z) (List.prefix_refl _) fun q hq => (hs.2.1 a (nD a hm)).trans hq

/-- an exception that nobody else knows: its class, its traceback's head, its context -/
structure Exc (R : RS) (P : PS) (δ : List Addr) (env : Env) (h : Heap) (e : Addr) (cls : String) (tb ctx : Value) : Prop where
  free : Free R P δ env e
  there : ∃ oe vs, h.get? e = some oe ∧ oe.cls = .type cls ∧ oe.data = .fields vs ∧ vs.size = 6 ∧ vs[1]? = some tb ∧ vs[2]? = some ctx
/-- a traceback's head, and where it flies -/
structure Tbk (R : RS) (P : PS) (δ : List Addr) (env : Env) (h : Heap) (e T : Addr) (x : Value) : Prop where
  free : Free R P δ env T
  ne : T ≠ e
  there : ∃ oT ts, h.get? T = some oT ∧ oT.data = .fields ts ∧ ts[3]? = some x
/-- the stack of frames -/
structure Stk (A : Around) (R : RS) (env : Env) : Prop where
  top : ∃ e0 outer L, A.frames = some (e0 :: outer) ∧ e0.frame = some L ∧ env.frame = some L
  all : ∀ l, A.frames = some l → ∀ e ∈ l, e.scope.kind ≠ .module ∧ ∃ L, e.frame = some L ∧ (L = env.locals ∨ ∃ o, R.up L o ∧ ∀ vs, o.data ≠ .fields vs)
theorem AOk.stk {A : Around} (hA : AOk A n R env) : Stk A R env := by
  obtain ⟨l, L, h1, h2, h3, ⟨e0, outer, rfl, h4⟩, h5⟩ := hA.stack
  refine ⟨⟨e0, outer, L, h1, h4, h2⟩, fun l hl e he => ?_⟩
  rw [h1] at hl; cases hl
  exact h5 e he
theorem Stk.mark {A : Around} (S : Stk A R env) (v : Option Value) : Stk (A.mark v) R env := ⟨S.top, S.all⟩
/-- the frame where it flies -/
noncomputable def flg (env : Env) : Value := env.frame.elim .none fun f => rawInt f
theorem flg_eq {L : Addr} (h : env.frame = some L) : flg env = rawInt L := by unfold flg; rw [h]; rfl

noncomputable def noHeap : Heap := {}
theorem Inv.funFrames (I : Inv g R P δ env ρ σ h) : ∀ {l : List Env}, (∀ e ∈ l, e.scope.kind ≠ .module ∧ ∃ L, e.frame = some L ∧ (L = env.locals ∨ ∃ o, R.up L o ∧ ∀ vs, o.data ≠ .fields vs)) → h.FunFrames noHeap l
  | [], _ => trivial
  | e :: l, k => by
    obtain ⟨h1, L, h2, h3⟩ := k e List.mem_cons_self
    refine ⟨h1, ⟨L, ?_⟩, I.funFrames fun e' he => k e' (List.mem_cons_of_mem _ he)⟩
    rcases h3 with rfl | ⟨o, h3, h4⟩
    · obtain ⟨m, ⟨o, es, ep, ho, hd, _⟩, _⟩ := I.loc
      exact ⟨o, h2, rfl, ho, fun vs c => by rw [hd] at c; cases c⟩
    · obtain ⟨sl, e⟩ := I.keepU L o h3
      exact ⟨_, h2, rfl, e, h4⟩
theorem frames_in {l : List Env} (k : ∀ e ∈ l, e.scope.kind ≠ .module ∧ ∃ L, e.frame = some L ∧ (L = env.locals ∨ ∃ o, R.up L o ∧ ∀ vs, o.data ≠ .fields vs)) : ∀ b ∈ l.filterMap (·.frame), b = env.locals ∨ ∃ o, R.up b o := fun b hb => by
  obtain ⟨e, he, hf⟩ := List.mem_filterMap.mp hb
  obtain ⟨_, L, h2, h3⟩ := k e he
  rw [h2] at hf; cases hf
  rcases h3 with h3 | ⟨o, h3, _⟩
  · exact .inl h3
  · exact .inr ⟨o, h3⟩
theorem Free.notin {a : Addr} (f : Free R P δ env a) {S : List Addr} (hS : ∀ b ∈ S, b = env.locals ∨ ∃ o, R.up b o) : a ∉ S := fun hm => by
  rcases hS a hm with rfl | ⟨o, u⟩
  · exact f.s (.inl rfl)
  · exact f.r o (.inr u)

section
variable {M : Model} {A : Around} {E : Value → Shared → Prop} {s : Shared} {e T : Addr} {cls : String} {tb ctx x : Value}

theorem wp_frameOf {base : Heap} {e0 : Env} {outer : List Env} {L : Addr} {Q : Value → Shared → Prop} (hfr : A.frames = some (e0 :: outer)) (hl : s.heap.FunFrames base (e0 :: outer))
    (h0 : e0.frame = some L) (hf : env.frame = some L) (h : ∀ h', Heap.SlotsOnly ((e0 :: outer).filterMap (·.frame)) s.heap h' → Q (.ref L) { s with heap := h' }) : wpAny M A (PySem.frameOf env) Q E s := by
  unfold PySem.frameOf
  refine wpAny_bind (wpAny_frameEnvs hfr ?_)
  have hdw : ((e0 :: outer).dropWhile fun x => x.frame != env.frame) = e0 :: outer := by simp [List.dropWhile, h0, hf]
  rw [hdw]
  unfold frameObject
  refine wpAny_bind (wpAny_bind (wpAny_readyFrames_fun hl fun h₁ hs₁ => wpAny_pure ?_))
  rw [h0]
  exact wpAny_pure (h h₁ hs₁)
/-- an entry is laid at the traceback's head -/
theorem wp_entry (S : Stk A R env) {L : Addr} (hL : env.frame = some L) (I : Inv g R P δ env ρ σ s.heap) (X : Exc R P δ env s.heap e cls tb ctx) {head : Value} {hadNext : Bool} {Q : Unit → Shared → Prop}
    (k : ∀ h' T, Inv g R P δ env ρ σ h' → Exc R P δ env h' e cls (.ref T) ctx → Tbk R P δ env h' e T (rawInt L) → Q () { s with heap := h' }) :
    wpAny M A (do let a ← frameOf env; let pl ← entryPlaceOf L hadNext; let b ← EntryCells.newEntry head a .none (rawInt L) .none pl; setField (.ref e) 1 b) Q E s := by
  obtain ⟨e0, outer, L', hfr, h0, hL'⟩ := S.top
  obtain rfl : L = L' := Option.some.inj (hL.symm.trans hL')
  have hall := S.all _ hfr
  refine wpAny_bind (wp_frameOf hfr (I.funFrames hall) h0 hL fun h₁ hs₁ => ?_)
  have hS := frames_in hall
  have I₁ := I.slots hs₁ hS
  obtain ⟨oe, vs, he, hc, hd, hz, h1, h2⟩ := X.there
  have he₁ : h₁.get? e = some oe := (hs₁.2.1 e (X.free.notin hS)).trans he
  refine wpAny_bind (wpAny_entryPlaceOf fun pl hpl => ?_)
  unfold EntryCells.newEntry newFields
  refine wpAny_bind (wpAny_newObj_type ?_ (hpl.sizeOk5 _ _ _ _ _))
  generalize hoT : ({ cls := .type "traceback", dict := none, data := .fields ([head, Value.ref L, .none, rawInt L, .none] ++ (if pl.isEmpty then List.replicate 6 Value.none else pl)).toArray } : Obj) = oT
  have hoTd : oT.data = .fields ([head, Value.ref L, .none, rawInt L, .none] ++ (if pl.isEmpty then List.replicate 6 Value.none else pl)).toArray := by rw [← hoT]
  have he₂ := Heap.get?_push_of_some (h := h₁) oT he₁
  refine wpAny_setField he₂ hd (by omega) ?_
  have hn := get_size_none h₁
  have fT := I₁.free hn
  have hTe : h₁.objs.size ≠ e := Nat.ne_of_gt (Heap.lt_size he₁)
  have I₂ := I₁.grows fun b o q => Heap.get?_push_of_some (h := h₁) oT q
  have I₃ := I₂.sameBut X.free (Heap.SameBut.update _ e (Obj.mapFields (·.setIfInBounds 1 (Value.ref h₁.objs.size))))
  have hd₃ := Obj.data_mapFields hd (·.setIfInBounds 1 (Value.ref h₁.objs.size))
  refine k _ h₁.objs.size I₃ ⟨X.free, _, _, Heap.get?_update_self _ he₂ (Obj.isFreed_of_fields hd₃), ?_, hd₃, by simp [hz], by simp [hz], ?_⟩ ⟨fT, hTe, oT, _, ?_, hoTd, by simp⟩
  · rw [Obj.cls_mapFields]; exact hc
  · rw [Array.getElem?_setIfInBounds]; simpa using h2
  · rw [Heap.get?_update_other _ _ (Ne.symm hTe)]
    exact Heap.get?_push_size h₁ (by subst hoT; rfl)
/-- where it flies is set -/
theorem wp_setT (I : Inv g R P δ env ρ σ s.heap) (X : Exc R P δ env s.heap e cls (.ref T) ctx) (Y : Tbk R P δ env s.heap e T x) (y : Value) {Q : Unit → Shared → Prop}
    (k : ∀ h', Inv g R P δ env ρ σ h' → Exc R P δ env h' e cls (.ref T) ctx → Tbk R P δ env h' e T y → Q () { s with heap := h' }) : wpAny M A (setField (.ref T) 3 y) Q E s := by
  obtain ⟨oT, ts, hT, hd, h3⟩ := Y.there
  have hz := (Array.getElem?_eq_some_iff.mp h3).1
  refine wpAny_setField hT hd hz ?_
  have hd' := Obj.data_mapFields hd (·.setIfInBounds 3 y)
  obtain ⟨oe, vs, he, hc, hde, r⟩ := X.there
  refine k _ (I.sameBut Y.free (Heap.SameBut.update ..)) ⟨X.free, oe, vs, (Heap.get?_update_other _ _ Y.ne).trans he, hc, hde, r⟩ ⟨Y.free, Y.ne, _, _, Heap.get?_update_self _ hT (Obj.isFreed_of_fields hd'), hd', by simp [hz]⟩
theorem wp_flight (I : Inv g R P δ env ρ σ s.heap) (X : Exc R P δ env s.heap e cls (.ref T) ctx) (Y : Tbk R P δ env s.heap e T x) (f : Option Addr) {Q : Unit → Shared → Prop}
    (k : ∀ h', Inv g R P δ env ρ σ h' → Exc R P δ env h' e cls (.ref T) ctx → Tbk R P δ env h' e T (f.elim .none fun f => rawInt f) → Q () { s with heap := h' }) : wpAny M A (setFlight (.ref e) f) Q E s := by
  obtain ⟨oe, vs, he, hc, hd, hz, h1, h2⟩ := X.there
  unfold setFlight
  refine wpAny_bind (wpAny_field he hd h1 ?_)
  rw [if_pos (show (Value.ref T != Value.none) = true from by simp)]
  exact wp_setT I X Y _ k
/-- a frame is noted -/
theorem wp_note (S : Stk A R env) (I : Inv g R P δ env ρ σ s.heap) (X : Exc R P δ env s.heap e cls tb ctx) (Y : tb = .none ∨ ∃ T x, tb = .ref T ∧ Tbk R P δ env s.heap e T x ∧ (x = .none ∨ x = flg env)) {Q : Unit → Shared → Prop}
    (k : ∀ h' T, Inv g R P δ env ρ σ h' → Exc R P δ env h' e cls (.ref T) ctx → Tbk R P δ env h' e T (flg env) → Q () { s with heap := h' }) : wpAny M A (noteFrame (.ref e) env) Q E s := by
  obtain ⟨oe, vs, he, hc, hd, hz, h1, h2⟩ := X.there
  obtain ⟨_, _, L, _, _, hL⟩ := S.top
  rw [flg_eq hL] at k Y
  unfold noteFrame
  simp only [hL]
  refine wpAny_bind (wpAny_field he hd h1 ?_)
  rcases Y with rfl | ⟨T, x, rfl, Y, rfl | rfl⟩
  · rw [if_neg (by decide)]
    exact wp_entry S hL I X k
  · rw [if_pos (show (Value.ref T != Value.none) = true from by simp)]
    obtain ⟨oT, ts, hT, hdT, h3⟩ := Y.there
    refine wpAny_bind (wpAny_field hT hdT h3 ?_)
    rw [if_neg (show ¬ ((Value.none == rawInt L) = true) from by simp [rawInt])]
    refine wpAny_bind (wp_setT I X Y .none fun h₁ I₁ X₁ Y₁ => ?_)
    exact wp_entry (s := { s with heap := h₁ }) S hL I₁ X₁ k
  · rw [if_pos (show (Value.ref T != Value.none) = true from by simp)]
    obtain ⟨oT, ts, hT, hdT, h3⟩ := Y.there
    refine wpAny_bind (wpAny_field hT hdT h3 ?_)
    rw [if_pos (show (rawInt L == rawInt L) = true from by first | (simp; done) | exact beq_self_eq_true _)]
    exact wpAny_pure (k s.heap T I X Y)
/-- an exception comes back from an inner activation, or is passed on -/
theorem wp_back {E' : Value → Shared → Prop} (I : Inv g R P δ env ρ σ s.heap) (X : Exc R P δ env s.heap e cls (.ref T) ctx) (Y : Tbk R P δ env s.heap e T x)
    (k : ∀ h', Inv g R P δ env ρ σ h' → Exc R P δ env h' e cls (.ref T) ctx → Tbk R P δ env h' e T (flg env) → E' (.ref e) { s with heap := h' }) : cameBackBy M A env E' (.ref e) s := by
  obtain ⟨oe, vs, he, hc, hd, hz, h1, h2⟩ := X.there
  unfold cameBackBy
  refine wpAny_bind (wpAny_field he hd h1 ?_)
  rw [if_neg (by simp)]
  exact wp_flight I X Y _ k
theorem wp_passOn {α : Type} {what : String} {Q : α → Shared → Prop} (I : Inv g R P δ env ρ σ s.heap) (X : Exc R P δ env s.heap e cls (.ref T) ctx) (Y : Tbk R P δ env s.heap e T x)
    (k : ∀ h', Inv g R P δ env ρ σ h' → Exc R P δ env h' e cls (.ref T) ctx → Tbk R P δ env h' e T (flg env) → E (.ref e) { s with heap := h' }) : wpAny M A (PySem.passOn what (.ref e) env : Sem α) Q E s := by
  obtain ⟨oe, vs, he, hc, hd, hz, h1, h2⟩ := X.there
  unfold PySem.passOn
  refine wpAny_bind (wpAny_field he hd h1 ?_)
  rw [if_neg (by simp)]
  exact wpAny_bind (wp_flight I X Y _ fun h' I' X' Y' => wpAny_throw (k h' I' X' Y'))
theorem wp_leaving (S : Stk A R env) (I : Inv g R P δ env ρ σ s.heap) (X : Exc R P δ env s.heap e cls tb ctx) (Y : tb = .none ∨ ∃ T x, tb = .ref T ∧ Tbk R P δ env s.heap e T x ∧ (x = .none ∨ x = flg env)) {Q : Unit → Shared → Prop}
    (k : ∀ h' T, Inv g R P δ env ρ σ h' → Exc R P δ env h' e cls (.ref T) ctx → Tbk R P δ env h' e T .none → Q () { s with heap := h' }) : wpAny M A (leaving env (.ref e)) Q E s := by
  unfold leaving
  refine wpAny_bind (wp_note S I X Y fun h₁ T I₁ X₁ Y₁ => ?_)
  exact wp_flight (s := { s with heap := h₁ }) I₁ X₁ Y₁ none fun h₂ I₂ X₂ Y₂ => k h₂ T I₂ X₂ Y₂
end
end
end Mine
end
section
open PySem PySem.W PyProof.Rows PySem.Calls PySem.SeqAt
set_option Elab.async false
set_option linter.unusedVariables false
set_option maxRecDepth 100000
namespace Mine
theorem entry_unchain : entryFor table "proto.unchain" = some Builtin.«proto.unchain» := entryFor_of_tree (by kernel_rfl)
theorem plain_unchain : plainId "proto.unchain" = true := by decide +kernel
section
variable {prog : Program} {w : World} {A : Around} {E : Value → Shared → Prop} {s : Shared} {env : Env}
/-- an exception, new, is raised while another is at hand -/
theorem raiseNew_while {α : Type} {e e₁ : Addr} {o₁ : Obj} {vs₁ : Array Value} {o : Obj} {vs : Array Value} {Q : α → Shared → Prop} (hh : A.handled = some (.ref e₁)) (hne : e₁ ≠ e) (h1 : s.heap.get? e₁ = some o₁) (hd1 : o₁.data = .fields vs₁) (hc : vs₁[2]? = some .none)
    (he : s.heap.get? e = some o) (hd : o.data = .fields vs) (hz : 2 < vs.size)
    (h : E (.ref e) { s with heap := s.heap.update e (Obj.mapFields (·.setIfInBounds 2 (.ref e₁))) }) : wpAny (model prog w) A (raiseNew (.ref e) : Sem α) Q E s := by
  unfold raiseNew
  refine wpAny_bind (wpAny_handled ?_)
  rw [hh]
  dsimp only
  rw [if_pos (by simpa using hne)]
  refine wpAny_bind (wpAny_holding (wpAny_runValue (codeAny_builtin entry_unchain ?_)))
  rw [Around.under_plainId plain_unchain _]
  unfold Builtin.«proto.unchain»
  refine wpAny_bind (wpAny_field h1 hd1 hc ?_)
  rw [if_pos (by decide)]
  refine wpAny_pure ?_
  refine wpAny_bind ?_
  unfold updateField
  refine wpAny_bind (wpAny_load he ?_)
  rw [hd]
  dsimp only
  rw [if_pos hz]
  exact wpAny_update he (wpAny_throw h)
theorem raise_from_none {cls : String} (F : ExcRaiseFacts cls) {x c : Sem Value} {Q : Flow → Shared → Prop} {e₁ : Addr} (hh : A.handled = some (.ref e₁))
    (h : wpAny (model prog w) A x (fun v s₁ => ∃ e t o₁ vs₁, v = .ref e ∧ s₁.heap.get? e = some { cls := .type cls, data := .fields #[.ref t, .none, .none, .none, .bool false, .none] } ∧ e₁ ≠ e ∧ s₁.heap.get? e₁ = some o₁ ∧ o₁.data = .fields vs₁ ∧ vs₁[2]? = some .none ∧
      wpAny (model prog w) A c (fun u s₂ => u = .none ∧ s₂ = s₁ ∧ ∀ h', Heap.SameBut e s₁.heap h' → h'.get? e = some { cls := .type cls, data := .fields #[.ref t, .none, .ref e₁, .none, .bool true, .none] } → E (.ref e) { s₁ with heap := h' }) E s₁) E s) :
    wpAny (model prog w) A (raiseStmt env (some x) (some c)) Q E s := by
  unfold raiseStmt
  refine wpAny_bind (wpAny_mono h (fun v s₁ h₁ => ?_) fun _ _ x => x)
  obtain ⟨e, t, o₁, vs₁, rfl, he, hne, hg1, hd1, hc1, h₁⟩ := h₁
  refine wpAny_bind (wpAny_holding (wpAny_mono h₁ (fun u s₂ h₂ => ?_) fun _ _ x => x))
  obtain ⟨rfl, rfl, hE⟩ := h₂
  refine wpAny_bind (wpAny_pure ?_)
  have hsub := F.isExc
  have hmeta := F.plainMeta
  obtain ⟨hp, g, d, tk, os⟩ := s₂
  repeat (first | refine wpAny_loadPart he ?_ | wp_step)
  have u1 := update_eq (Obj.mapFields (·.setIfInBounds 3 Value.none)) he (o' := { cls := .type cls, data := .fields #[.ref t, .none, .none, .none, .bool false, .none] }) rfl rfl
  have u2 := update_eq (Obj.mapFields (·.setIfInBounds 4 (Value.bool true))) u1 (o' := { cls := .type cls, data := .fields #[.ref t, .none, .none, .none, .bool true, .none] }) rfl rfl
  have u3 := update_eq (Obj.mapFields (·.setIfInBounds 2 (Value.ref e₁))) u2 (o' := { cls := .type cls, data := .fields #[.ref t, .none, .ref e₁, .none, .bool true, .none] }) rfl rfl
  have hb : Heap.SameBut e hp (((hp.update e (Obj.mapFields (·.setIfInBounds 3 Value.none))).update e (Obj.mapFields (·.setIfInBounds 4 (Value.bool true))))) := (Heap.SameBut.update ..).trans (Heap.SameBut.update ..)
  exact raiseNew_while hh hne ((hb.2 e₁ hne).trans hg1) hd1 hc1 u2 rfl (by simp) (hE _ (hb.trans (Heap.SameBut.update ..)) u3)
end
end Mine
end
section
open PySem PySem.W PyProof.Rows PySem.Calls PySem.SeqAt
set_option Elab.async false
set_option linter.unusedVariables false
set_option maxRecDepth 100000
namespace Mine
section
variable {prog : Program} {w : World} {A : Around} {E : Value → Shared → Prop} {s : Shared}
theorem push_ne {h : Heap} {D : Addr} {o o' : Obj} (e : h.get? D = some o) : (h.push o').get? D = some o := Heap.get?_push_of_some _ e
/-- a set of one truth value, unpacked -/
theorem unpack_one {D : Addr} {b : Bool} {ep : Nat} {Q : List Value → Shared → Prop} (hh : A.handled = none) (ho : s.heap.get? D = some (setO (!byText w) (!b) b ep))
    (h : ∀ h', (∀ c o, s.heap.get? c = some o → h'.get? c = some o) → Q [.bool b] { s with heap := h' }) : wpAny (model prog w) A (unpackItems (.ref D) 1 none) Q E s := by
  have hne : D ≠ s.heap.objs.size := Nat.ne_of_lt (Heap.lt_size ho)
  obtain ⟨nx, n1, n2⟩ := next_one w D b ep
  have hz : (esB (!b) b).size = 1 := by cases b <;> rfl
  unfold unpackItems
  refine wpAny_bind ?_
  unfold notIterableAtAll
  refine wpAny_bind (wpAny_specialOf (typeIs_set ho) slot_set_iter.lookup ?_)
  refine wpAny_pure ?_
  simp only [Bool.false_eq_true, if_false]
  refine wpAny_bind (wpAny_holding (pyIter_set ho ?_))
  have ho₁ := push_ne (o' := setIt D 0 0 (esB (!b) b).size ep) ho
  refine wpAny_bind (wpAny_holding ?_)
  show wpAny _ _ (pyNext (.ref s.heap.objs.size) >>= _) _ _ _
  refine wpAny_bind (pyNext_set_item ho₁ (Heap.get?_push_size _ rfl) n1 fun h₂ hs₂ hi₂ => ?_)
  refine wpAny_bind (wpAny_holding ?_)
  show wpAny _ _ (pure []) _ _ _
  refine wpAny_pure (wpAny_pure ?_)
  rw [if_neg (by simp)]
  have ho₂ : h₂.get? D = some _ := (hs₂.2 D hne).trans ho₁
  refine wpAny_bind (wpAny_holding (pyNext_set_end hh ho₂ hi₂ n2 fun h₃ hs₃ => ?_))
  simp only [Option.isSome_none, Bool.false_eq_true, if_false]
  refine wpAny_pure (h h₃ fun c o hc => ?_)
  have hcn : c ≠ s.heap.objs.size := Nat.ne_of_lt (Heap.lt_size hc)
  exact hs₃ c o hcn ((hs₂.2 c hcn).trans (Heap.get?_push_of_some _ hc))
/-- a set of both truth values, unpacked -/
theorem unpack_two {D : Addr} {ep : Nat} {Q : List Value → Shared → Prop} (hh : A.handled = none) (ho : s.heap.get? D = some (setO (!byText w) true true ep))
    (h : ∀ h' tk e, Heap.NewExc s.heap h' e "ValueError" → E (.ref e) { s with heap := h', toks := tk }) : wpAny (model prog w) A (unpackItems (.ref D) 1 none) Q E s := by
  have hne : D ≠ s.heap.objs.size := Nat.ne_of_lt (Heap.lt_size ho)
  obtain ⟨b, nx, x, n1, n2⟩ := next_two w D ep
  obtain ⟨v, nx'⟩ := x
  unfold unpackItems
  refine wpAny_bind ?_
  unfold notIterableAtAll
  refine wpAny_bind (wpAny_specialOf (typeIs_set ho) slot_set_iter.lookup ?_)
  refine wpAny_pure ?_
  simp only [Bool.false_eq_true, if_false]
  refine wpAny_bind (wpAny_holding (pyIter_set ho ?_))
  have ho₁ := push_ne (o' := setIt D 0 0 (esB true true).size ep) ho
  refine wpAny_bind (wpAny_holding ?_)
  show wpAny _ _ (pyNext (.ref s.heap.objs.size) >>= _) _ _ _
  refine wpAny_bind (pyNext_set_item ho₁ (Heap.get?_push_size _ rfl) n1 fun h₂ hs₂ hi₂ => ?_)
  refine wpAny_bind (wpAny_holding ?_)
  show wpAny _ _ (pure []) _ _ _
  refine wpAny_pure (wpAny_pure ?_)
  rw [if_neg (by simp)]
  have ho₂ : h₂.get? D = some _ := (hs₂.2 D hne).trans ho₁
  refine wpAny_bind (wpAny_holding (pyNext_set_item ho₂ hi₂ n2 fun h₃ hs₃ _ => ?_))
  simp only [Option.isSome_some, if_true]
  refine wpAny_bind (wpAny_rule ?_)
  refine wpAny_bind (wpAny_raiseErrorMade plainExc_ValueError hh (fun h₄ tk e hn => h h₄ tk e ⟨fun c o hc => ?_, ?_, hn.there⟩) (by size_fits))
  · have hcn : c ≠ s.heap.objs.size := Nat.ne_of_lt (Heap.lt_size hc)
    exact hn.keeps c o ((hs₃.2 c hcn).trans ((hs₂.2 c hcn).trans (Heap.get?_push_of_some _ hc)))
  · cases q : s.heap.get? e with
    | none => rfl
    | some o =>
      have hcn : e ≠ s.heap.objs.size := Nat.ne_of_lt (Heap.lt_size q)
      have := hn.new
      have k : h₃.get? e = some o := (hs₃.2 e hcn).trans ((hs₂.2 e hcn).trans (Heap.get?_push_of_some _ q))
      have this : h₃.get? e = none := this
      rw [k] at this; cases this
end
end Mine
end
section
open PySem PySem.W PyProof.Rows PySem.Calls PySem.SeqAt
set_option Elab.async false
set_option linter.unusedVariables false
set_option maxRecDepth 100000
namespace Mine
/-- an exception in flight at this frame -/
noncomputable def Fli (R : RS) (P : PS) (δ : List Addr) (env : Env) (h : Heap) (e : Addr) (cls : String) : Prop :=
  ∃ tb ctx, Exc R P δ env h e cls tb ctx ∧ (tb = .none ∨ ∃ T x, tb = .ref T ∧ Tbk R P δ env h e T x ∧ (x = .none ∨ x = flg env))
/-- what a tree does that ends by an exception -/
structure RunX (g : Glo) (sc : Scope) (n : Nat) {α : Type} (t : Env → Sem α) (ρ : Loc) (σ : List MO) (cls : String) : Prop where
  run : ∀ (env : Env) (A : Around) (R : RS) (P : PS) (δ : List Addr) (s : Shared) (Q : α → Shared → Prop) (E : Value → Shared → Prop), EnvOk env sc → AOk A n R env → Inv g R P δ env ρ σ s.heap →
    (∀ e P' δ' h' tk', (∀ b o, P b o → P' b o) → δ <+: δ' → Inv g R P' δ' env ρ σ h' → Fli R P' δ' env h' e cls → E (.ref e) { s with heap := h', toks := tk' }) →
    wpAny (model g.prog g.w) A (t env) Q E s
/-- statements that end by an exception: no name is known any more -/
structure ExX (g : Glo) (sc : Scope) (n : Nat) (ss : List Stmt) (ρ : Loc) (σ : List MO) (cls : String) : Prop where
  run : ∀ (env : Env) (A : Around) (R : RS) (P : PS) (δ : List Addr) (s : Shared) (Q : Flow → Shared → Prop) (E : Value → Shared → Prop), EnvOk env sc → AOk A n R env → Inv g R P δ env ρ σ s.heap →
    (∀ e P' δ' h' tk', (∀ b o, P b o → P' b o) → δ <+: δ' → Inv g R P' δ' env [] σ h' → Fli R P' δ' env h' e cls → E (.ref e) { s with heap := h', toks := tk' }) →
    wpAny (model g.prog g.w) A (execs ss env) Q E s
/-- a def of the text, called, raises -/
noncomputable def FnX (g : Glo) (n : Nat) (f : Str) (args : List V) (σ : List MO) (cls : String) : Prop :=
  ∃ a o fd, g.mg f = some (.ref a) ∧ g.hb.get? a = some o ∧ o.data = .func fd ∧
    ∀ (env : Env) (ρ : Loc) (A : Around) (R : RS) (P : PS) (δ : List Addr) (s : Shared) (Q : Value → Shared → Prop) (E : Value → Shared → Prop) (vs : List Value), AOk A n R env → Inv g R P δ env ρ σ s.heap → g.SeesL P δ vs args →
      (∀ e P' δ' h' tk', (∀ b o, P b o → P' b o) → δ <+: δ' → Inv g R P' δ' env ρ σ h' → Fli R P' δ' env h' e cls → E (.ref e) { s with heap := h', toks := tk' }) →
      wpAny (model g.prog g.w) A (call (.ref a) vs) Q E s
section
variable {g : Glo} {R : RS} {P P' : PS} {δ δ' : List Addr} {env cenv : Env} {ρ ρ' ρc ρ₁ ρ₂ : Loc} {σ σ' σ₁ σ₂ σ₃ : List MO} {h h' : Heap} {sc : Scope} {n : Nat} {Φ : Out → Prop} {rest : List Stmt} {cls : String}
theorem no_e {E : Value → Shared → Prop} : ∀ e s, NoE e s → E e s := fun _ _ x => x.elim
theorem under_free {a : Addr} {env' : Env} {h₀ : Heap} (I : Inv g R P δ env ρ σ h₀) (f : Free (under R env h₀) P' δ' env' a) : Free R P' δ' env a := by
  refine ⟨fun o x => f.r o (any_under x), f.p, f.d, fun x => ?_⟩
  obtain ⟨o, ho⟩ := I.slot_lt x
  exact f.r o (slot_under x ho)
theorem Fli.up {e : Addr} {env' : Env} {h₀ : Heap} {ctx : Value} {T : Addr} (I : Inv g R P δ env ρ σ h₀) (X : Exc (under R env h₀) P' δ' env' h e cls (.ref T) ctx) (Y : Tbk (under R env h₀) P' δ' env' h e T .none) : Fli R P' δ' env h e cls :=
  ⟨.ref T, ctx, ⟨under_free I X.free, X.there⟩, .inr ⟨T, .none, rfl, ⟨under_free I Y.free, Y.ne, Y.there⟩, .inl rfl⟩⟩

theorem exX_step {st : Stmt} {ρ' : Loc} {σ' : List MO} (h1 : Ex1 g sc n st ρ σ ρ' σ') (h2 : ExX g sc n rest ρ' σ' cls) (hσ : σ' = σ := by rfl) : ExX g sc n (st :: rest) ρ σ cls := .mk fun env A R P δ s Q E O hA I k => by
  subst hσ
  exact wpAny_execs_cons (wpAny_mono (h1.run env A R P δ s _ O hA I fun P' δ' h' tk' le pr I' => h2.run env A R P' δ' { s with heap := h', toks := tk' } Q E O hA I' fun e P₂ δ₂ h₂ tk₂ le₂ pr₂ I₂ F => k e P₂ δ₂ h₂ tk₂ (fun b o z => le₂ b o (le b o z)) (pr.trans pr₂) I₂ F) (fun _ _ z => z) no_e)
/-- an if whose ways meet again -/
theorem exX_ifj {t : Expr} {body orelse : List Stmt} {p : Pos} {b : Bool} {ρ' : Loc} (h1 : EvB g sc n t ρ σ b σ) (h2 : b = true → Ex g sc n body ρ σ (fun o => ∃ r, o = .nx r σ ∧ Sub ρ' r))
    (h3 : b = false → Ex g sc n orelse ρ σ (fun o => ∃ r, o = .nx r σ ∧ Sub ρ' r)) (h : ExX g sc n rest ρ' σ cls) : ExX g sc n (.If t body orelse p :: rest) ρ σ cls := .mk fun env A R P δ s Q E O hA I k => by
  have fin : ∀ (ss : List Stmt) P₁ δ₁ hh₁ tk₁, (∀ b o, P b o → P₁ b o) → δ <+: δ₁ → Inv g R P₁ δ₁ env ρ σ hh₁ → Ex g sc n ss ρ σ (fun o => ∃ r, o = .nx r σ ∧ Sub ρ' r) →
      wpAny (model g.prog g.w) A (execs ss env) (fun f s' => match f with | .next => wpAny (model g.prog g.w) A (execs rest env) Q E s' | f => Q f s') E { s with heap := hh₁, toks := tk₁ } := by
    intro ss P₁ δ₁ hh₁ tk₁ le₁ pr₁ I₁ hx
    refine wpAny_mono (hx.run env A R P₁ δ₁ { s with heap := hh₁, toks := tk₁ } _ O hA I₁ ?_) (fun _ _ z => z) no_e
    rintro o ⟨r, rfl, hr⟩ P₂ δ₂ hh₂ tk₂ le₂ pr₂ I₂
    exact h.run env A R P₂ δ₂ { s with heap := hh₂, toks := tk₂ } Q E O hA (I₂.forget hr) fun e P₃ δ₃ h₃ tk₃ le₃ pr₃ I₃ F => k e P₃ δ₃ h₃ tk₃ (fun b o z => le₃ b o (le₂ b o (le₁ b o z))) ((pr₁.trans pr₂).trans pr₃) I₃ F
  refine wpAny_execs_cons (wpAny_If (wpAny_mono (h1.run env A R P δ s (fun b s₂ => if b then wpAny (model g.prog g.w) A (execs body env) (fun f s' => match f with | .next => wpAny (model g.prog g.w) A (execs rest env) Q E s' | f => Q f s') E s₂ else wpAny (model g.prog g.w) A (execs orelse env) (fun f s' => match f with | .next => wpAny (model g.prog g.w) A (execs rest env) Q E s' | f => Q f s') E s₂) O hA I fun c P₁ δ₁ hh₁ tk₁ le₁ pr₁ I₁ s₁ => ?_) (fun _ _ z => z) no_e))
  subst s₁
  cases c with
  | true => exact fin body P₁ δ₁ hh₁ tk₁ le₁ pr₁ I₁ (h2 rfl)
  | false => exact fin orelse P₁ δ₁ hh₁ tk₁ le₁ pr₁ I₁ (h3 rfl)
theorem exX_skip {t : Expr} {body : List Stmt} {p : Pos} (h1 : EvB g sc n t ρ σ false σ) (h : ExX g sc n rest ρ σ cls) : ExX g sc n (.If t body [] p :: rest) ρ σ cls :=
  exX_ifj h1 (fun e => nomatch e) (fun _ => ex_nil ⟨ρ, rfl, fun _ _ e => e⟩) h
end
end Mine
end
section
open PySem PySem.W PyProof.Rows PySem.Calls PySem.SeqAt
set_option Elab.async false
set_option linter.unusedVariables false
set_option maxRecDepth 100000
namespace Mine
section
variable {g : Glo} {R : RS} {P P' : PS} {δ δ' : List Addr} {env cenv : Env} {ρ ρ' ρc ρ₁ ρ₂ : Loc} {σ σ' σ₁ σ₂ σ₃ : List MO} {h h' : Heap} {sc : Scope} {n : Nat} {Φ : Out → Prop} {rest : List Stmt} {cls : String}
theorem fnX_gen {d : DefRec} {args : List V} {ρ' : Loc} (hd : d ∈ recsOf g.p)
    (hbind : ∀ pm cd doc (ρ : Loc) (A : Around) (R : RS) (P : PS) (δ : List Addr) (env : Env) (s : Shared) (vs : List Value), Inv g R P δ env ρ σ s.heap → g.SeesL P δ vs args →
      wpAny (model g.prog g.w) A (bindArgs (docDef d.name d.params d.body d.scope pm cd doc) ⟨vs, []⟩) (fun binds s₁ => ∃ P₁ h₁ tk₁, s₁ = { s with heap := h₁, toks := tk₁ } ∧ (∀ b o, P b o → P₁ b o) ∧ Inv g R P₁ δ env ρ σ h₁ ∧ Binds g P₁ δ binds ρ' ∧ ∀ b ∈ binds, isVar d.scope b.1 = true) NoE s)
    (hbody : ExX g d.scope n d.body ρ' σ cls)
    (hco : d.scope.isCoroutine = false := by rfl) (hgen : d.scope.isGenerator = false := by rfl) (hk : d.scope.kind = .function := by rfl) : FnX g (n + 1) d.name args σ cls := by
  obtain ⟨a, o, pm, code, doc, h1, h2, h3, h4⟩ := g.top.fn d hd
  refine ⟨a, o, _, h1, h2, h3, ?_⟩
  intro env ρ A R P δ s Q E vs hA I hvs k
  refine wp_call_def h2 h3 h4 hA I (hbind pm code doc ρ A.in1 R P δ env s vs I hvs) (fun env' P₁ h₁ h₂ tk₂ le I₁ keep J O' A' hf => ?_) hco hgen hk
  refine hbody.run env' _ _ P₁ δ { s with heap := h₂, toks := tk₂ } _ _ O' A' J fun e P₂ δ₂ h₃ tk₃ le₂ pr₂ J₂ F => ?_
  obtain ⟨tb, ctx, X, Y⟩ := F
  exact wp_leaving (s := { s with heap := h₃, toks := tk₃ }) A'.stk J₂ X Y fun h₄ T J₃ X₃ Y₃ =>
    k e P₂ δ₂ h₄ tk₃ (fun b o z => le₂ b o (le b o z)) pr₂ (I₁.back J₃ le₂ pr₂) (Fli.up I₁ X₃ Y₃)
theorem fnX_at {name : Str} {params : Arguments} {body : List Stmt} {scope : Scope} {pos : Pos} {args : List V} (names : List Str) (hd : (⟨name, params, body, scope, pos⟩ : DefRec) ∈ recsOf g.p)
    (hbind : ∀ pm cd doc vs, vs.length = args.length → bindArgs (docDef name params body scope pm cd doc) ⟨vs, []⟩ = pure (names.zip vs))
    (hbody : ExX g scope n body (names.zip args) σ cls) (hl : names.length = args.length := by rfl) (hn : names.Nodup := by decide +kernel) (hv : names.all (isVar scope) = true := by decide +kernel)
    (hco : scope.isCoroutine = false := by rfl) (hgen : scope.isGenerator = false := by rfl) (hk : scope.kind = .function := by rfl) : FnX g (n + 1) name args σ cls :=
  fnX_gen (d := ⟨name, params, body, scope, pos⟩) hd (bind_plain names hbind hl hn hv) hbody hco hgen hk
/-- a call that raises -/
theorem evX_call {f : Str} {pf pos : Pos} {args : List Expr} {xs : List V} (m : Nat) (h1 : EvL g sc n pos args ρ σ xs σ) (h2 : FnX g m f xs σ cls) (hf : isGlob sc f = true := by decide +kernel) (hm : m ≤ n := by decide) (hp : firstPlain args = true := by rfl) :
    RunX g sc n (eval (.Call (.Name f pf) args [] pos)) ρ σ cls := .mk fun env A R P δ s Q E O hA I k => by
  obtain ⟨a, o, fd, e1, e2, e3, e4⟩ := h2
  refine wpAny_Call_NameR (wp_global O I hf e1 (callWith_function (o := o) (fd := fd) (evalArgs_first hp ?_)))
  refine wpAny_mono (h1.run env A R P δ s (fun vs s₁ => s₁.heap.get? a = some o ∧ o.data = .func fd ∧ wpAny (model g.prog g.w) A (call (.ref a) vs) Q E s₁) O hA I fun vs P₁ δ₁ hh₁ tk₁ le₁ pr₁ I₁ s₁ => ⟨I₁.keepR _ _ (I₁.base _ _ e2), e3, ?_⟩) (fun vs s₁ z => ⟨⟨z.1, z.2.1⟩, z.2.2⟩) no_e
  exact e4 env ρ A R P₁ δ₁ _ Q E vs (hA.less hm) I₁ s₁ fun e P₂ δ₂ hh₂ tk₂ le₂ pr₂ I₂ F => k e P₂ δ₂ hh₂ tk₂ (fun b o z => le₂ b o (le₁ b o z)) (pr₁.trans pr₂) I₂ F
end
end Mine
end
section
open PySem PySem.W PyProof.Rows PySem.Calls PySem.SeqAt
set_option Elab.async false
set_option linter.unusedVariables false
set_option maxRecDepth 100000
namespace Mine
theorem sub_VT : isSubtype (.type "ValueError") (.type "TypeError") = pure false := by rw [isSubtype_type]; kernel_rfl
theorem sub_VA : isSubtype (.type "ValueError") (.type "AttributeError") = pure false := by rw [isSubtype_type]; kernel_rfl
theorem sub_VV : isSubtype (.type "ValueError") (.type "ValueError") = pure true := by rw [isSubtype_type]; kernel_rfl
theorem isExc_AE : isSubtype (.type "AttributeError") (.type "BaseException") = pure true := by rw [isSubtype_type]; kernel_rfl
theorem notTup_TE : isSubtype (.type ((Manifest.find? "TypeError").elim "type" fun x => x.metatype)) (.type "tuple") = pure false := by rw [isSubtype_type]; kernel_rfl
theorem notTup_AE : isSubtype (.type ((Manifest.find? "AttributeError").elim "type" fun x => x.metatype)) (.type "tuple") = pure false := by rw [isSubtype_type]; kernel_rfl
theorem notTup_VE : isSubtype (.type ((Manifest.find? "ValueError").elim "type" fun x => x.metatype)) (.type "tuple") = pure false := by rw [isSubtype_type]; kernel_rfl
section
variable {g : Glo} {R : RS} {P P' : PS} {δ δ' : List Addr} {env cenv : Env} {ρ ρ' ρc ρ₁ ρ₂ : Loc} {σ σ' σ₁ σ₂ σ₃ : List MO} {h h' : Heap} {sc : Scope} {n : Nat} {Φ : Out → Prop} {rest : List Stmt} {cls : String}
theorem Exc.grows {e : Addr} {tb ctx : Value} (X : Exc R P δ env h e cls tb ctx) (hk : ∀ b o, h.get? b = some o → h'.get? b = some o) : Exc R P δ env h' e cls tb ctx :=
  let ⟨oe, vs, he, r⟩ := X.there; ⟨X.free, oe, vs, hk _ _ he, r⟩
theorem Tbk.grows {e T : Addr} {x : Value} (X : Tbk R P δ env h e T x) (hk : ∀ b o, h.get? b = some o → h'.get? b = some o) : Tbk R P δ env h' e T x :=
  let ⟨oe, vs, he, r⟩ := X.there; ⟨X.free, X.ne, oe, vs, hk _ _ he, r⟩
theorem Exc.typeIs {e : Addr} {tb ctx : Value} {s : Shared} (X : Exc R P δ env s.heap e cls tb ctx) : s.TypeIs (.ref e) cls :=
  let ⟨oe, vs, he, hc, _⟩ := X.there; ⟨oe, he, hc⟩

/-- two classes that the exception is not of -/
theorem exX_miss {body : List Stmt} {b₀ : Stmt} {suite : List Stmt} {p1 p2 p3 hpos pos : Pos} {k : Nat} (h1 : ExX g sc n body ρ σ "ValueError")
    (hT : isGlob sc "TypeError" = true := by decide +kernel) (hA : isGlob sc "AttributeError" = true := by decide +kernel) (hmT : g.mg "TypeError" = none := by exact (‹Has g _›).blt _ (by decide +kernel)) (hmA : g.mg "AttributeError" = none := by exact (‹Has g _›).blt _ (by decide +kernel)) :
    ExX g sc n (.Try body [.ExceptHandler (some (.Tuple [.Name "TypeError" p1, .Name "AttributeError" p2] k p3)) none (b₀ :: suite) hpos] [] [] pos :: rest) ρ σ "ValueError" := .mk fun env A R P δ s Q E O hA' I kk => by
  refine wpAny_execs_cons (wpAny_Try_except (wpAny_mono (h1.run env A R P δ s (fun _ _ => False) (fun e s₁ => wpAny (model g.prog g.w) A (noteFrame e env) (fun _ s₂ => wpAny (model g.prog g.w) A (setFlight e none) (fun _ s₃ => wpAny (model g.prog g.w) A (handleBy e env [.ExceptHandler (some (.Tuple [.Name "TypeError" p1, .Name "AttributeError" p2] k p3)) none (b₀ :: suite) hpos]) _ E s₃) E s₂) E s₁) O hA' I fun e P₁ δ₁ h₁ tk₁ le pr I₁ F => ?_) (fun _ _ z => z.elim) (fun _ _ z => z)))
  obtain ⟨tb, ctx, X, Y⟩ := F
  refine wp_note (s := { s with heap := h₁, toks := tk₁ }) hA'.stk I₁ X Y fun h₂ T I₂ X₂ Y₂ => ?_
  refine wp_flight (s := { s with heap := h₂, toks := tk₁ }) I₂ X₂ Y₂ none fun h₃ I₃ X₃ Y₃ => ?_
  refine wpAny_handleBy_tup2 PySem.F.isExc_TypeError notTup_TE isExc_AE notTup_AE sub_VT sub_VA ?_
  refine wpAny_Tuple_spliced ?_
  have e2 : starEach [Expr.Name "TypeError" p1, .Name "AttributeError" p2] env = (false, eval (.Name "TypeError" p1) env) :: (false, eval (.Name "AttributeError" p2) env) :: [] := rfl
  rw [e2]
  refine spliced_cons (wp_builtin (s := { s with heap := h₃, toks := tk₁ }) O I₃ hT hmT (v := .type "TypeError") (by decide +kernel) (by decide +kernel) ?_)
  refine spliced_cons (wp_builtin (s := { s with heap := h₃, toks := tk₁ }) O I₃ hA hmA (v := .type "AttributeError") (by decide +kernel) (by decide +kernel) ?_)
  refine spliced_nil ⟨by rw [sizeLine_eq]; decide, _, rfl, ⟨_, Heap.get?_push_size _ rfl, rfl, _, rfl⟩, ?_, ?_⟩
  · exact (X₃.grows fun b o q => Heap.get?_push_of_some _ q).typeIs (s := { s with heap := h₃.push _, toks := tk₁ })
  · have hk : ∀ b o, h₃.get? b = some o → (h₃.push { cls := .type "tuple", data := .seq ([Value.type "TypeError", .type "AttributeError"] : List Value).toArray }).get? b = some o := fun b o q => Heap.get?_push_of_some _ q
    refine wpAny_handleBy_nil ?_
    refine wp_passOn (s := { s with heap := h₃.push _, toks := tk₁ }) (I₃.grows hk) (X₃.grows hk) (Y₃.grows hk) fun h₄ I₄ X₄ Y₄ => ?_
    exact kk e P₁ δ₁ h₄ tk₁ le pr I₄ ⟨_, _, X₄, .inr ⟨T, _, rfl, Y₄, .inr rfl⟩⟩
/-- statements that end by a new exception -/
structure ExN (g : Glo) (sc : Scope) (n : Nat) (ss : List Stmt) (ρ : Loc) (σ : List MO) (cls : String) : Prop where
  run : ∀ (env : Env) (A : Around) (R : RS) (P : PS) (δ : List Addr) (s : Shared) (Q : Flow → Shared → Prop) (E : Value → Shared → Prop), EnvOk env sc → AOk A n R env → Inv g R P δ env ρ σ s.heap →
    (∀ e P' δ' h' tk', (∀ b o, P b o → P' b o) → δ <+: δ' → Inv g R P' δ' env ρ σ h' → Exc R P' δ' env h' e cls .none .none → E (.ref e) { s with heap := h', toks := tk' }) →
    wpAny (model g.prog g.w) A (execs ss env) Q E s
/-- caught, and another raised in its stead -/
theorem exX_reraise {body : List Stmt} {p1 p2 p3 p4 p5 hpos pos cpos : Pos} {m : Str} {k1 k2 : Nat} (h1 : ExN g sc n body ρ σ "ValueError")
    (hV : isGlob sc "ValueError" = true := by decide +kernel) (hmV : g.mg "ValueError" = none := by exact (‹Has g _›).blt _ (by decide +kernel)) :
    ExX g sc n (.Try body [.ExceptHandler (some (.Name "ValueError" p1)) none [.Raise (some (.Call (.Name "ValueError" p2) [.Constant (.str m) k1 p3] [] cpos)) (some (.Constant .none k2 p4)) p5] hpos] [] [] pos :: rest) ρ σ "ValueError" := .mk fun env A R P δ s Q E O hA' I kk => by
  have S := hA'.stk
  refine wpAny_execs_cons (wpAny_Try_except (wpAny_mono (h1.run env A R P δ s (fun _ _ => False) (fun e s₁ => wpAny (model g.prog g.w) A (noteFrame e env) (fun _ s₂ => wpAny (model g.prog g.w) A (setFlight e none) (fun _ s₃ => wpAny (model g.prog g.w) A (handleBy e env [.ExceptHandler (some (.Name "ValueError" p1)) none [.Raise (some (.Call (.Name "ValueError" p2) [.Constant (.str m) k1 p3] [] cpos)) (some (.Constant .none k2 p4)) p5] hpos]) _ E s₃) E s₂) E s₁) O hA' I fun e P₁ δ₁ h₁ tk₁ le pr I₁ X => ?_) (fun _ _ z => z.elim) (fun _ _ z => z)))
  refine wp_note (s := { s with heap := h₁, toks := tk₁ }) S I₁ X (.inl rfl) fun h₂ T I₂ X₂ Y₂ => ?_
  refine wp_flight (s := { s with heap := h₂, toks := tk₁ }) I₂ X₂ Y₂ none fun h₃ I₃ X₃ Y₃ => ?_
  refine wpAny_handleBy_builtin (X := "ValueError") (T := "ValueError") (b := true) PySem.F.isExc_ValueError notTup_VE sub_VV (wp_builtin (s := { s with heap := h₃, toks := tk₁ }) O I₃ hV hmV (v := .type "ValueError") (by decide +kernel) (by decide +kernel) ⟨rfl, X₃.typeIs (s := { s with heap := h₃, toks := tk₁ }), ?_⟩)
  simp only [if_true]
  refine wp_flight (s := { s with heap := h₃, toks := tk₁ }) I₃ X₃ Y₃ none fun h₄ I₄ X₄ Y₄ => ?_
  refine wpAny_execs_cons ?_
  rw [arm_exec_Raise]
  refine wpAny_bind (wpAny_standAt ?_)
  refine raise_from_none PySem.F.excRaise_ValueError (e₁ := e) rfl ?_
  show wpAny _ _ (eval (.Call (.Name "ValueError" p2) [.Constant (.str m) k1 p3] [] cpos) env >>= _) _ _ _
  refine wpAny_bind (wpAny_Call_ofName (wp_builtin (s := { s with heap := h₄, toks := tk₁ }) O I₄ hV hmV (v := .type "ValueError") (by decide +kernel) (by decide +kernel) ?_))
  refine callWith_excType rfl ?_
  refine evalArgs_first rfl ?_
  have e2 : starEach [Expr.Constant (.str m) k1 p3] env = (false, eval (.Constant (.str m) k1 p3) env) :: [] := rfl
  rw [e2]
  refine spliced_cons (@wpAny_Constant_str _ _ _ _ env m k1 p3 _ (spliced_nil ?_))
  refine wpAny_call_exc PySem.F.excCall_ValueError (hrest := by rw [sizeLine_eq]; simp) fun h₅ e' hm => ?_
  obtain ⟨t, ht, hn, htt⟩ := hm.there
  have hk := hm.keeps
  have hne : e ≠ e' := by
    rintro rfl
    obtain ⟨oe, vs, he, _⟩ := X₄.there
    have := hm.new
    rw [he] at this; cases this
  have I₅ := I₄.grows hk
  have X₅ := X₄.grows hk
  have fe := I₄.free hm.new
  obtain ⟨oe, vs, he, hc, hd, hz, hv1, hv2⟩ := X₅.there
  refine wpAny_bind (wpAny_standAt (wpAny_pure ⟨e', t, oe, vs, rfl, ht, hne, he, hd, hv2, ?_⟩))
  show wpAny _ _ (eval (.Constant .none k2 p4) env >>= _) _ _ _
  refine wpAny_bind (@wpAny_Constant_none _ _ _ _ env k2 p4 _ (wpAny_bind (wpAny_standAt (wpAny_pure ⟨rfl, rfl, fun h₆ hs₆ he₆ => ?_⟩))))
  have I₆ := I₅.sameBut fe hs₆
  have X₆ : Exc R P₁ δ₁ env h₆ e' "ValueError" .none (.ref e) := ⟨fe, _, _, he₆, rfl, rfl, rfl, rfl, rfl⟩
  refine wp_note (s := { s with heap := h₆, toks := tk₁ + 1 }) (S.mark _) I₆ X₆ (.inl rfl) fun h₇ T₇ I₇ X₇ Y₇ => ?_
  refine wp_back (s := { s with heap := h₇, toks := tk₁ + 1 }) I₇ X₇ Y₇ fun h₈ I₈ X₈ Y₈ => ?_
  exact kk e' P₁ δ₁ h₈ (tk₁ + 1) le pr (I₈.forget fun x y q => by cases q) ⟨_, _, X₈, .inr ⟨T₇, _, rfl, Y₈, .inr rfl⟩⟩
end
end Mine
end
section
open PySem PySem.W PyProof.Rows PySem.Calls PySem.SeqAt
set_option Elab.async false
set_option linter.unusedVariables false
set_option maxRecDepth 100000
namespace Mine
section
variable {g : Glo} {R : RS} {P P' : PS} {δ δ' : List Addr} {env cenv : Env} {ρ ρ' ρc ρ₁ ρ₂ : Loc} {σ σ' σ₁ σ₂ σ₃ : List MO} {h h' : Heap} {sc : Scope} {n : Nat} {Φ : Out → Prop} {rest : List Stmt} {cls : String}
/-- what raises is caught, and the name is given None -/
theorem ex_tryX {a : Str} {pa p p1 p2 p3 p4 hpos pos : Pos} {e : Expr} {k : Nat} (h1 : RunX g sc n (eval e) ρ σ "ValueError") (h : Ex g sc n rest ((a, .none) :: ρ) σ Φ) (ha : isVar sc a = true := by decide +kernel)
    (hs : ∀ env, swapsWith e (some (.Name a pa)) p.line env = pure false := by intro _; rfl)
    (hV : isGlob sc "ValueError" = true := by decide +kernel) (hmV : g.mg "ValueError" = none := by exact (‹Has g _›).blt _ (by decide +kernel)) :
    Ex g sc n (.Try [.Assign [.Name a pa] e p] [.ExceptHandler (some (.Name "ValueError" p1)) none [.Assign [.Name a p2] (.Constant .none k p3) p4] hpos] [] [] pos :: rest) ρ σ Φ := .mk fun env A R P δ s Q O hA I kk => by
  have S := hA.stk
  refine wpAny_execs_cons (wpAny_Try_except (wpAny_execs_cons (wpAny_Assign_Name (h1.run env A R P δ s _ _ O hA I fun e P₁ δ₁ h₁ tk₁ le pr I₁ F => ?_) (hs env))))
  obtain ⟨tb, ctx, X, Y⟩ := F
  refine wp_note (s := { s with heap := h₁, toks := tk₁ }) S I₁ X Y fun h₂ T I₂ X₂ Y₂ => ?_
  refine wp_flight (s := { s with heap := h₂, toks := tk₁ }) I₂ X₂ Y₂ none fun h₃ I₃ X₃ Y₃ => ?_
  refine wpAny_handleBy_builtin (X := "ValueError") (T := "ValueError") (b := true) PySem.F.isExc_ValueError notTup_VE sub_VV (wp_builtin (s := { s with heap := h₃, toks := tk₁ }) O I₃ hV hmV (v := .type "ValueError") (by decide +kernel) (by decide +kernel) ⟨rfl, X₃.typeIs (s := { s with heap := h₃, toks := tk₁ }), ?_⟩)
  simp only [if_true]
  refine wp_flight (s := { s with heap := h₃, toks := tk₁ }) I₃ X₃ Y₃ none fun h₄ I₄ X₄ Y₄ => ?_
  refine wpAny_execs_cons (wpAny_Assign_Name (@wpAny_Constant_none _ _ _ _ env k p3 _ (wp_store (s := { s with heap := h₄, toks := tk₁ }) O I₄ ha .none fun h₅ tk₅ I₅ => wpAny_execs_nil ?_)) rfl)
  exact h.run env A R P₁ δ₁ { s with heap := h₅, toks := tk₅ } Q O hA I₅ fun o ho => (kk o ho).mono le pr

theorem sees_bools : ∀ {bs cs : List Bool}, g.SeesL P δ (bs.map Value.bool) (cs.map V.bool) → bs = cs
  | [], [], _ => rfl
  | b :: bs, c :: cs, h => by
    obtain ⟨v, vs, e, h1, h2⟩ := SeesL.cons_inv h
    injection e with e1 e2
    subst e1 e2
    have := h1.tells
    injection this with this
    rw [this, sees_bools h2]
  | [], _ :: _, h => nomatch h.1
  | _ :: _, [], h => nomatch h.1
theorem outs_all (val : Nat → V) (N : Nat) : outs (fun _ => true) val N = (List.range N).map val := by unfold outs; rw [List.filter_eq_self.mpr fun _ _ => rfl]
/-- the set of truth values that a comprehension makes -/
theorem wp_sc {tgt elt iter : Expr} {scope : Scope} {pos : Pos} {xs : List V} (vb : Nat → Bool) (hc : lcScope scope = true) (hl : lcLends scope sc = true) (hsrc : Src g sc n iter ρ σ xs σ tgt) (hz : xs.length ≤ 16777215)
    (hturn : ∀ (i : Nat) y, xs[i]? = some y → ∃ ρ', Asg g (relab scope sc) n tgt y (capt scope sc ρ) ρ' ∧ Sub (capt scope sc ρ) ρ' ∧ Ev g (relab scope sc) n elt ρ' σ (.bool (vb i)) σ)
    {A : Around} {s : Shared} {Q : Value → Shared → Prop} (O : EnvOk env sc) (hA : AOk A n R env) (I : Inv g R P δ env ρ σ s.heap) (hs : ∀ x, foldedSetIterable iter env x = pure x)
    (hp : ∀ P' δ' D ep h' tk', (∀ b o, P b o → P' b o) → δ <+: δ' → Inv g R P' δ' env ρ σ h' → h'.get? D = some (setO (!byText g.w) (((List.range xs.length).map vb).contains false) (((List.range xs.length).map vb).contains true) ep) → Q (.ref D) { s with heap := h', toks := tk' }) :
    wpAny (model g.prog g.w) A (eval (.SetComp elt [⟨tgt, iter, [], 0⟩] scope pos) env) Q NoE s := by
  rw [arm_eval_SetComp]
  refine wp_lc .s (fun _ => true) (fun i => .bool (vb i)) hc hl hsrc hz (fun i y hy => let ⟨ρ', a, b, c⟩ := hturn i y hy; ⟨ρ', a, b, tst_nil, fun _ => ⟨c, _, rfl⟩⟩) (use := none) O hA I hs fun P' δ' C D h' tk' ys le pr I' hm hf hDf hDC hpl hys hne => ?_
  obtain ⟨m, hm⟩ := hm
  obtain ⟨bs, ep, rfl, hD⟩ := hpl
  have hbs : bs = (List.range xs.length).map vb := by
    refine sees_bools (g := g) (P := P') (δ := δ') ?_
    rw [outs_all] at hys
    rwa [List.map_map]
  subst hbs
  exact ⟨m, hm, fun h'' hs'' => hp P' δ' D ep h'' tk' le pr (I'.sameBut hf hs'') ((hs''.2 D hDC).trans hD)⟩
theorem swaps_tup {ts : List Expr} {k : Nat} {pt pos : Pos} {elt : Expr} {gens : List Comprehension} {scope : Scope} (line : Nat) (env : Env) : swapsWithSole [.Tuple ts k pt] (.SetComp elt gens scope pos) line env = pure false := rfl
theorem assign_one {A : Around} {E : Value → Shared → Prop} {s : Shared} {a : Str} {pa pt : Pos} {k : Nat} {v : Value} {Q : Unit → Shared → Prop}
    (h : wpAny (model g.prog g.w) A (unpackItems v 1 none) (fun vs s' => wpAny (model g.prog g.w) A (assignInOrder [assign (.Name a pa) env] vs) Q E s') E s) : wpAny (model g.prog g.w) A (assign (.Tuple [.Name a pa] k pt) env v) Q E s := by
  rw [arm_assign_Tuple]
  refine wpAny_bind (wpAny_standAt ?_)
  unfold unpack
  refine wpAny_bind (wpAny_holding ?_)
  exact h
/-- one truth value alone -/
theorem ex1_set {a : Str} {pa pt p : Pos} {kt : Nat} {tgt elt iter : Expr} {scope : Scope} {pos : Pos} {xs : List V} (b : Bool) (hsrc : Src g sc n iter ρ σ xs σ tgt) (hne : xs ≠ []) (hz : xs.length ≤ 16777215)
    (hturn : ∀ (i : Nat) y, xs[i]? = some y → ∃ ρ', Asg g (relab scope sc) n tgt y (capt scope sc ρ) ρ' ∧ Sub (capt scope sc ρ) ρ' ∧ Ev g (relab scope sc) n elt ρ' σ (.bool b) σ)
    (ha : isVar sc a = true := by decide +kernel) (hc : lcScope scope = true := by decide +kernel) (hl : lcLends scope sc = true := by decide +kernel) (hs : ∀ env x, foldedSetIterable iter env x = pure x := by intro _ _; rfl) :
    Ex1 g sc n (.Assign [.Tuple [.Name a pa] kt pt] (.SetComp elt [⟨tgt, iter, [], 0⟩] scope pos) p) ρ σ ((a, .bool b) :: ρ) σ := .mk fun env A R P δ s Q O hA I k => by
  refine Assign_Tuple (wp_sc (fun _ => b) hc hl hsrc hz hturn O hA I (hs env) (xs := xs) fun P' δ' D ep h' tk' le pr I' hD => ?_) (swaps_tup ..) rfl
  have hb : (((List.range xs.length).map fun _ => b).contains false) = !b ∧ (((List.range xs.length).map fun _ => b).contains true) = b := by
    have : xs.length ≠ 0 := fun e => hne (List.length_eq_zero_iff.mp e)
    have hm : ∀ c : Bool, ((List.range xs.length).map fun _ => b).contains c = (c == b) := fun c => by
      rw [Bool.eq_iff_iff, List.contains_iff_mem, List.mem_map]
      constructor
      · rintro ⟨_, _, rfl⟩; exact beq_self_eq_true _
      · intro e
        exact ⟨0, List.mem_range.mpr (by omega), (eq_of_beq e).symm⟩
    rw [hm, hm]
    cases b <;> exact ⟨rfl, rfl⟩
  rw [hb.1, hb.2] at hD
  refine assign_one (unpack_one (s := { s with heap := h', toks := tk' }) hA.handled hD fun h'' hk => ?_)
  show wpAny _ _ (holding [] (assign (.Name a pa) env (.bool b)) >>= _) _ _ _
  refine wpAny_bind (wpAny_holding (wpAny_assign_Name (wp_store (s := { s with heap := h'', toks := tk' }) O (I'.grows hk) ha (.bool b) fun h3 tk3 I3 => ?_)))
  exact wpAny_pure (k P' δ' h3 tk3 le pr I3)
/-- both truth values -/
theorem exN_set {a : Str} {pa pt p : Pos} {kt : Nat} {tgt elt iter : Expr} {scope : Scope} {pos : Pos} {xs : List V} (vb : Nat → Bool) (hsrc : Src g sc n iter ρ σ xs σ tgt) (hz : xs.length ≤ 16777215)
    (hturn : ∀ (i : Nat) y, xs[i]? = some y → ∃ ρ', Asg g (relab scope sc) n tgt y (capt scope sc ρ) ρ' ∧ Sub (capt scope sc ρ) ρ' ∧ Ev g (relab scope sc) n elt ρ' σ (.bool (vb i)) σ)
    (hT : ∃ i, i < xs.length ∧ vb i = true) (hF : ∃ i, i < xs.length ∧ vb i = false) (hc : lcScope scope = true := by decide +kernel) (hl : lcLends scope sc = true := by decide +kernel) (hs : ∀ env x, foldedSetIterable iter env x = pure x := by intro _ _; rfl) :
    ExN g sc n (.Assign [.Tuple [.Name a pa] kt pt] (.SetComp elt [⟨tgt, iter, [], 0⟩] scope pos) p :: rest) ρ σ "ValueError" := .mk fun env A R P δ s Q E O hA I k => by
  refine wpAny_execs_cons (Assign_Tuple (wpAny_mono (wp_sc vb hc hl hsrc hz hturn O hA I (hs env) (Q := fun v s₁ => wpAny (model g.prog g.w) A (assign (.Tuple [.Name a pa] kt pt) env v) (fun _ _ => False) E s₁) fun P' δ' D ep h' tk' le pr I' hD => ?_) (fun v s₁ z => wpAny_mono z (fun _ _ z => z.elim) fun _ _ z => z) no_e) (swaps_tup ..) rfl)
  have hb : ((List.range xs.length).map vb).contains false = true ∧ ((List.range xs.length).map vb).contains true = true := by
    obtain ⟨i, hi, ei⟩ := hT
    obtain ⟨j, hj, ej⟩ := hF
    exact ⟨List.contains_iff_mem.mpr (List.mem_map.mpr ⟨j, List.mem_range.mpr hj, ej⟩), List.contains_iff_mem.mpr (List.mem_map.mpr ⟨i, List.mem_range.mpr hi, ei⟩)⟩
  rw [hb.1, hb.2] at hD
  refine assign_one (unpack_two (s := { s with heap := h', toks := tk' }) hA.handled hD fun h'' tk e hn => ?_)
  obtain ⟨ob, tp, he, hcls, hd⟩ := hn.there
  have fe := I'.free hn.new
  exact k e P' δ' h'' tk le pr (I'.grows hn.keeps) ⟨fe, ob, _, he, hcls, hd, rfl, rfl, rfl⟩
end
end Mine
end
section
open PySem PySem.W PyProof.Rows PySem.Calls PySem.SeqAt
open AutoSeq1 (wpAny_loadPart')
open MeetsSeq MeetsSeq2 MeetsSeq3
set_option Elab.async false
set_option linter.unusedVariables false
set_option maxRecDepth 100000
namespace Mine
/-- two lists compared from a place on: the first pair that differs decides, else the sizes -/
noncomputable def cw (e c : Nat → Bool) (fin : Bool) : Nat → Nat → Bool
  | 0, _ => fin
  | k + 1, i => if e i then cw e c fin k (i + 1) else c i
/-- how an order asks -/
noncomputable def RcOp (op : CmpOp) (A : Around) (s : Shared) (y x : Value) (b : Bool) : Prop :=
  ∀ (prog : Program) (w : World) (E : Value → Shared → Prop) (Q : Value → Shared → Prop), Q (.bool b) s → wpAny (model prog w) A (richCompare op y x) Q E s
theorem lt_loopAt (l b : Addr) (items items2 : Array Value) (n n2 : Nat) (dd dd2 : Option Addr) (sl sl2 : Array (Option Value)) (e c : Nat → Bool) (k : Nat) :
    ∀ i : Nat, min items.size items2.size - i = k → i ≤ min items.size items2.size → Meets (Builtin.«list.__eq__.loop» ⟨[.ref l, .ref b, rawInt i, rawInt 0], []⟩)
      (fun A R s => s.heap.get? l = some { cls := .type "list", dict := dd, data := .seq items n, slots := sl } ∧ s.heap.get? b = some { cls := .type "list", dict := dd2, data := .seq items2 n2, slots := sl2 } ∧
        (∀ j (h1 : j < items.size) (h2 : j < items2.size), EqAt A.in1 s items[j] items2[j] (e j) ∧ RcOp .Lt A.in1 s items[j] items2[j] (c j)) ∧
        R (.ok (.ret (.bool (cw e c (decide (items.size < items2.size)) k i)))) s) := by
  induction k with
  | zero =>
    intro i hk hle prog w A R s h
    obtain ⟨hp, g, d, tk, os⟩ := s; obtain ⟨hl, hb, he, h⟩ := h
    wp_walk using wpAny_loadPart' hl, wpAny_loadPart' hb
    by_cases h1 : i < items.size
    · have hi1 : items[((i : Nat) : Int).toNat]? = some items[i] := by simp [h1]
      have hi2 : items2[((i : Nat) : Int).toNat]? = none := by simp; omega
      rw [hi1, hi2]
      wp_walk using wpAny_loadPart' hl, wpAny_loadPart' hb
      exact h
    · have hi1 : items[((i : Nat) : Int).toNat]? = none := by simp; omega
      rw [hi1]
      wp_walk using wpAny_loadPart' hl, wpAny_loadPart' hb
      exact h
  | succ k ih =>
    intro i hk hle prog w A R s h
    obtain ⟨hp, g, d, tk, os⟩ := s; obtain ⟨hl, hb, he, h⟩ := h
    wp_walk using wpAny_loadPart' hl, wpAny_loadPart' hb
    have hlt : i < items.size := by omega
    have hlt2 : i < items2.size := by omega
    have hi1 : items[((i : Nat) : Int).toNat]? = some items[i] := by simp [hlt]
    have hi2 : items2[((i : Nat) : Int).toNat]? = some items2[i] := by simp [hlt2]
    have hc : ((i : Int) + 1) = ((i + 1 : Nat) : Int) := by push_cast; rfl
    rw [hi1, hi2]
    refine wpAny_bind ((he i hlt hlt2).1 prog w _ _ ?_)
    unfold cw at h
    cases hb' : e i with
    | true =>
      rw [hb'] at h
      wp_walk
      rw [hc]
      exact ⟨plainId_quiet plain_eq_loop _, codeAny_builtin entry_eq_loop (by
        rw [Around.under_plainId plain_eq_loop _]
        exact ih (i + 1) (by omega) (by omega) prog w A R _ ⟨hl, hb, he, by simpa using h⟩)⟩
    | false =>
      rw [hb'] at h
      wp_walk using wpAny_loadPart' hl, wpAny_loadPart' hb
      rw [hi1, hi2]
      refine wpAny_bind ((he i hlt hlt2).2 prog w _ _ ?_)
      exact wpAny_pure (by simpa using h)
theorem gt_loopAt (l b : Addr) (items items2 : Array Value) (n n2 : Nat) (dd dd2 : Option Addr) (sl sl2 : Array (Option Value)) (e c : Nat → Bool) (k : Nat) :
    ∀ i : Nat, min items.size items2.size - i = k → i ≤ min items.size items2.size → Meets (Builtin.«list.__eq__.loop» ⟨[.ref l, .ref b, rawInt i, rawInt 4], []⟩)
      (fun A R s => s.heap.get? l = some { cls := .type "list", dict := dd, data := .seq items n, slots := sl } ∧ s.heap.get? b = some { cls := .type "list", dict := dd2, data := .seq items2 n2, slots := sl2 } ∧
        (∀ j (h1 : j < items.size) (h2 : j < items2.size), EqAt A.in1 s items[j] items2[j] (e j) ∧ RcOp .Gt A.in1 s items[j] items2[j] (c j)) ∧
        R (.ok (.ret (.bool (cw e c (decide (items2.size < items.size)) k i)))) s) := by
  induction k with
  | zero =>
    intro i hk hle prog w A R s h
    obtain ⟨hp, g, d, tk, os⟩ := s; obtain ⟨hl, hb, he, h⟩ := h
    wp_walk using wpAny_loadPart' hl, wpAny_loadPart' hb
    by_cases h1 : i < items.size
    · have hi1 : items[((i : Nat) : Int).toNat]? = some items[i] := by simp [h1]
      have hi2 : items2[((i : Nat) : Int).toNat]? = none := by simp; omega
      rw [hi1, hi2]
      wp_walk using wpAny_loadPart' hl, wpAny_loadPart' hb
      exact h
    · have hi1 : items[((i : Nat) : Int).toNat]? = none := by simp; omega
      rw [hi1]
      wp_walk using wpAny_loadPart' hl, wpAny_loadPart' hb
      exact h
  | succ k ih =>
    intro i hk hle prog w A R s h
    obtain ⟨hp, g, d, tk, os⟩ := s; obtain ⟨hl, hb, he, h⟩ := h
    wp_walk using wpAny_loadPart' hl, wpAny_loadPart' hb
    have hlt : i < items.size := by omega
    have hlt2 : i < items2.size := by omega
    have hi1 : items[((i : Nat) : Int).toNat]? = some items[i] := by simp [hlt]
    have hi2 : items2[((i : Nat) : Int).toNat]? = some items2[i] := by simp [hlt2]
    have hc : ((i : Int) + 1) = ((i + 1 : Nat) : Int) := by push_cast; rfl
    rw [hi1, hi2]
    refine wpAny_bind ((he i hlt hlt2).1 prog w _ _ ?_)
    unfold cw at h
    cases hb' : e i with
    | true =>
      rw [hb'] at h
      wp_walk
      rw [hc]
      exact ⟨plainId_quiet plain_eq_loop _, codeAny_builtin entry_eq_loop (by
        rw [Around.under_plainId plain_eq_loop _]
        exact ih (i + 1) (by omega) (by omega) prog w A R _ ⟨hl, hb, he, by simpa using h⟩)⟩
    | false =>
      rw [hb'] at h
      wp_walk using wpAny_loadPart' hl, wpAny_loadPart' hb
      rw [hi1, hi2]
      refine wpAny_bind ((he i hlt hlt2).2 prog w _ _ ?_)
      exact wpAny_pure (by simpa using h)
theorem list_ltAt (l b : Addr) (items items2 : Array Value) (n n2 : Nat) (dd dd2 : Option Addr) (sl sl2 : Array (Option Value)) (e c : Nat → Bool) :
    Meets (Builtin.«list.__lt__» ⟨[.ref l, .ref b], []⟩)
      (fun A R s => s.heap.get? l = some { cls := .type "list", dict := dd, data := .seq items n, slots := sl } ∧ s.heap.get? b = some { cls := .type "list", dict := dd2, data := .seq items2 n2, slots := sl2 } ∧
        (∀ j (h1 : j < items.size) (h2 : j < items2.size), EqAt A.in1 s items[j] items2[j] (e j) ∧ RcOp .Lt A.in1 s items[j] items2[j] (c j)) ∧
        R (.ok (.ret (.bool (cw e c (decide (items.size < items2.size)) (min items.size items2.size) 0)))) s) := by
  intro prog w A R s h
  obtain ⟨hp, g, d, tk, os⟩ := s; obtain ⟨hl, hb, he, h⟩ := h
  have f3 := AutoSeq1.sub_list_list
  wp_walk using wpAny_loadPart' hl, wpAny_loadPart' hb
  exact ⟨plainId_quiet plain_eq_loop _, codeAny_builtin entry_eq_loop (by
    rw [Around.under_plainId plain_eq_loop _]
    exact lt_loopAt l b items items2 n n2 dd dd2 sl sl2 e c _ 0 rfl (Nat.zero_le _) prog w A R _ ⟨hl, hb, he, by simpa using h⟩)⟩
theorem RcOp.lists_lt {A : Around} {s : Shared} {l b : Addr} {items items2 : Array Value} {e c : Nat → Bool} (hl : s.heap.IsList l items) (hb : s.heap.IsList b items2) (hu : A.units < cLine)
    (he : ∀ j (h1 : j < items.size) (h2 : j < items2.size), EqAt A.in1 s items[j] items2[j] (e j) ∧ RcOp .Lt A.in1 s items[j] items2[j] (c j)) :
    RcOp .Lt A s (.ref l) (.ref b) (cw e c (decide (items.size < items2.size)) (min items.size items2.size) 0) := fun prog w E Q h => by
  obtain ⟨⟨cls, dd, data, sl⟩, ho, hc, n, hd⟩ := id hl
  obtain ⟨⟨cls2, dd2, data2, sl2⟩, ho2, hc2, n2, hd2⟩ := id hb
  simp only at hc hd hc2 hd2
  subst hc hd hc2 hd2
  exact richCompare_meets_room (op := .Lt) ⟨_, ho, rfl⟩ ⟨_, ho2, rfl⟩ F.slot_list_lt F.entry_list_lt (F.args_list_lt_2 _ _) (list_ltAt l b items items2 n n2 dd dd2 sl sl2 e c)
    ⟨ho, ho2, he, show Value.bool _ ≠ Value.notImplemented ∧ Q (.bool _) s from ⟨(fun x => nomatch x), h⟩⟩ hu
theorem list_gtAt (l b : Addr) (items items2 : Array Value) (n n2 : Nat) (dd dd2 : Option Addr) (sl sl2 : Array (Option Value)) (e c : Nat → Bool) :
    Meets (Builtin.«list.__gt__» ⟨[.ref l, .ref b], []⟩)
      (fun A R s => s.heap.get? l = some { cls := .type "list", dict := dd, data := .seq items n, slots := sl } ∧ s.heap.get? b = some { cls := .type "list", dict := dd2, data := .seq items2 n2, slots := sl2 } ∧
        (∀ j (h1 : j < items.size) (h2 : j < items2.size), EqAt A.in1 s items[j] items2[j] (e j) ∧ RcOp .Gt A.in1 s items[j] items2[j] (c j)) ∧
        R (.ok (.ret (.bool (cw e c (decide (items2.size < items.size)) (min items.size items2.size) 0)))) s) := by
  intro prog w A R s h
  obtain ⟨hp, g, d, tk, os⟩ := s; obtain ⟨hl, hb, he, h⟩ := h
  have f3 := AutoSeq1.sub_list_list
  wp_walk using wpAny_loadPart' hl, wpAny_loadPart' hb
  exact ⟨plainId_quiet plain_eq_loop _, codeAny_builtin entry_eq_loop (by
    rw [Around.under_plainId plain_eq_loop _]
    exact gt_loopAt l b items items2 n n2 dd dd2 sl sl2 e c _ 0 rfl (Nat.zero_le _) prog w A R _ ⟨hl, hb, he, by simpa using h⟩)⟩
theorem RcOp.lists_gt {A : Around} {s : Shared} {l b : Addr} {items items2 : Array Value} {e c : Nat → Bool} (hl : s.heap.IsList l items) (hb : s.heap.IsList b items2) (hu : A.units < cLine)
    (he : ∀ j (h1 : j < items.size) (h2 : j < items2.size), EqAt A.in1 s items[j] items2[j] (e j) ∧ RcOp .Gt A.in1 s items[j] items2[j] (c j)) :
    RcOp .Gt A s (.ref l) (.ref b) (cw e c (decide (items2.size < items.size)) (min items.size items2.size) 0) := fun prog w E Q h => by
  obtain ⟨⟨cls, dd, data, sl⟩, ho, hc, n, hd⟩ := id hl
  obtain ⟨⟨cls2, dd2, data2, sl2⟩, ho2, hc2, n2, hd2⟩ := id hb
  simp only at hc hd hc2 hd2
  subst hc hd hc2 hd2
  exact richCompare_meets_room (op := .Gt) ⟨_, ho, rfl⟩ ⟨_, ho2, rfl⟩ F.slot_list_gt F.entry_list_gt (F.args_list_gt_2 _ _) (list_gtAt l b items items2 n n2 dd dd2 sl sl2 e c)
    ⟨ho, ho2, he, show Value.bool _ ≠ Value.notImplemented ∧ Q (.bool _) s from ⟨(fun x => nomatch x), h⟩⟩ hu
/-- the order of octets -/
noncomputable def ltS (a b : List UInt8) : Bool := decide (a.map UInt8.toNat < b.map UInt8.toNat)
/-- how a kind of text is ordered -/
structure TxCmp (g : Glo) (k : Kd) : Prop where
  lt : ∀ (P : PS) (δ : List Addr) (A : Around) (s : Shared) (v u : Value) (a b : List UInt8), g.Sees P δ v (.tx k a) → g.Sees P δ u (.tx k b) → RcOp .Lt A s v u (ltS a b)
  gt : ∀ (P : PS) (δ : List Addr) (A : Around) (s : Shared) (v u : Value) (a b : List UInt8), g.Sees P δ v (.tx k a) → g.Sees P δ u (.tx k b) → RcOp .Gt A s v u (ltS b a)
theorem txcmp_s {g : Glo} : TxCmp g .s where
  lt := fun P δ A s v u a b hv hu prog w E Q h => by
    obtain ⟨t, rfl⟩ := hv.tells
    obtain ⟨t', rfl⟩ := hu.tells
    refine richCompare_gives (op := .Lt) (T := "str") rfl rfl PyProof.Rows.slot_str_lt PyProof.Rows.entry_str_lt (PyProof.Rows.args_str_lt _ _) (PySem.gives_str_lt _ _ _ _) (fun x => nomatch x) ?_
    show Q (.bool (decide ((S8 a).cps.toList < (S8 b).cps.toList))) s
    rw [S8_list, S8_list]; exact h
  gt := fun P δ A s v u a b hv hu prog w E Q h => by
    obtain ⟨t, rfl⟩ := hv.tells
    obtain ⟨t', rfl⟩ := hu.tells
    refine richCompare_gives (op := .Gt) (T := "str") rfl rfl PyProof.Rows.slot_str_gt PyProof.Rows.entry_str_gt (PyProof.Rows.args_str_gt _ _) (PySem.gives_str_gt _ _ _ _) (fun x => nomatch x) ?_
    show Q (.bool (decide ((S8 b).cps.toList < (S8 a).cps.toList))) s
    rw [S8_list, S8_list]; exact h
/-- lists of octets in order -/
noncomputable def ltL : List (List UInt8) → List (List UInt8) → Bool
  | [], [] => false
  | [], _ :: _ => true
  | _ :: _, [] => false
  | a :: as, b :: bs => if a == b then ltL as bs else ltS a b
theorem cw_shift (e c : Nat → Bool) (fin : Bool) : ∀ (k i : Nat), cw e c fin k (i + 1) = cw (fun j => e (j + 1)) (fun j => c (j + 1)) fin k i
  | 0, _ => rfl
  | k + 1, i => by unfold cw; rw [cw_shift e c fin k (i + 1)]
theorem cw_lt : ∀ (as bs : List (List UInt8)), cw (fun j => as.getD j [] == bs.getD j []) (fun j => ltS (as.getD j []) (bs.getD j [])) (decide (as.length < bs.length)) (min as.length bs.length) 0 = ltL as bs
  | [], [] => rfl
  | [], _ :: _ => rfl
  | _ :: _, [] => rfl
  | a :: as, b :: bs => by
    have ih := cw_lt as bs
    have e1 : min (a :: as).length (b :: bs).length = min as.length bs.length + 1 := by simp
    rw [e1]
    unfold cw ltL
    rw [cw_shift]
    have e2 : decide ((a :: as).length < (b :: bs).length) = decide (as.length < bs.length) := by simp
    rw [e2]
    exact congrArg (fun z => if (a == b) = true then z else ltS a b) ih
theorem cw_gt : ∀ (as bs : List (List UInt8)), cw (fun j => as.getD j [] == bs.getD j []) (fun j => ltS (bs.getD j []) (as.getD j [])) (decide (bs.length < as.length)) (min as.length bs.length) 0 = ltL bs as
  | [], [] => rfl
  | [], _ :: _ => rfl
  | _ :: _, [] => rfl
  | a :: as, b :: bs => by
    have ih := cw_gt as bs
    have e1 : min (a :: as).length (b :: bs).length = min as.length bs.length + 1 := by simp
    rw [e1]
    unfold cw ltL
    rw [cw_shift]
    have e2 : decide ((b :: bs).length < (a :: as).length) = decide (bs.length < as.length) := by simp
    have e3 : (b == a) = (a == b) := BEq.comm
    rw [e2, e3]
    exact congrArg (fun z => if (a == b) = true then z else ltS b a) ih
section
variable {g : Glo} {R : RS} {P : PS} {δ : List Addr} {env : Env} {ρ : Loc} {σ : List MO} {n : Nat} {k : Kd}
theorem eqAt_tx {A : Around} {s : Shared} {v u : Value} {a b : List UInt8} (I : Inv g R P δ env ρ σ s.heap) (hA : A.units < cLine) (hv : g.Sees P δ v (.tx k a)) (hu : g.Sees P δ u (.tx k b)) : EqAt A s v u (a == b) :=
  EqAt.of_rc hv.noFl (fun e => by subst e; exact Cm.self I (cm_tx k a b) hv hu) (Cm.rc I (cm_tx k a b) (n := 0) hA hv hu)
theorem pair_at {A : Around} {s : Shared} {vs us : List Value} {as bs : List (List UInt8)} (C : TxCmp g k) (I : Inv g R P δ env ρ σ s.heap) (hA : A.units < cLine) (hv : g.SeesL P δ vs (as.map (.tx k))) (hu : g.SeesL P δ us (bs.map (.tx k))) (j : Nat) (h1 : j < vs.toArray.size) (h2 : j < us.toArray.size) :
    EqAt A s vs.toArray[j] us.toArray[j] (as.getD j [] == bs.getD j []) ∧ RcOp .Lt A s vs.toArray[j] us.toArray[j] (ltS (as.getD j []) (bs.getD j [])) ∧ RcOp .Gt A s vs.toArray[j] us.toArray[j] (ltS (bs.getD j []) (as.getD j [])) := by
  have l1 := hv.length
  have l2 := hu.length
  rw [List.length_map] at l1 l2
  rw [List.size_toArray] at h1 h2
  have s1 := hv.2 j vs[j] (.tx k (as.getD j [])) (List.getElem?_eq_getElem h1) (by rw [List.getElem?_map, List.getD_eq_getElem?_getD, List.getElem?_eq_getElem (by omega)]; rfl)
  have s2 := hu.2 j us[j] (.tx k (bs.getD j [])) (List.getElem?_eq_getElem h2) (by rw [List.getElem?_map, List.getD_eq_getElem?_getD, List.getElem?_eq_getElem (by omega)]; rfl)
  rw [List.getElem_toArray, List.getElem_toArray]
  exact ⟨eqAt_tx I hA s1 s2, C.lt P δ A s _ _ _ _ s1 s2, C.gt P δ A s _ _ _ _ s1 s2⟩
/-- two lists of texts in order -/
theorem rc_lists {A : Around} {s : Shared} {v u : Value} {as bs : List (List UInt8)} (C : TxCmp g k) (I : Inv g R P δ env ρ σ s.heap) (hA : A.in1.units < cLine) (hv : g.Sees P δ v (.list (as.map (.tx k)))) (hu : g.Sees P δ u (.list (bs.map (.tx k)))) :
    RcOp .Lt A s v u (ltL as bs) ∧ RcOp .Gt A s v u (ltL bs as) := by
  obtain ⟨l, vs, rfl, hl, h1⟩ := I.listOf (.inl rfl) hv
  obtain ⟨b, us, rfl, hb, h2⟩ := I.listOf (.inl rfl) hu
  have l1 := h1.length
  have l2 := h2.length
  rw [List.length_map] at l1 l2
  have hu0 : A.units < cLine := by have : A.units + 1 < cLine := hA; omega
  have p := pair_at (A := A.in1) C I hA h1 h2
  have e1 := RcOp.lists_lt hl hb hu0 fun j x y => ⟨(p j x y).1, (p j x y).2.1⟩
  have e2 := RcOp.lists_gt hl hb hu0 fun j x y => ⟨(p j x y).1, (p j x y).2.2⟩
  rw [List.size_toArray, List.size_toArray, l1, l2] at e1 e2
  rw [cw_lt] at e1
  rw [cw_gt] at e2
  exact ⟨e1, e2⟩
end
end Mine
end
section
open PySem PySem.W PyProof.Rows PySem.Calls PySem.SeqAt
set_option Elab.async false
set_option linter.unusedVariables false
set_option maxRecDepth 100000
namespace Mine
noncomputable def lsV (k : Kd) (as : List (List UInt8)) : V := .list (as.map (.tx k))
noncomputable def lssV (k : Kd) (xss : List (List (List UInt8))) : V := .list (xss.map (lsV k))
noncomputable def minS (cur x : List (List UInt8)) : List (List UInt8) := if ltL x cur then x else cur
noncomputable def maxS (cur x : List (List UInt8)) : List (List UInt8) := if ltL cur x then x else cur
section
variable {g : Glo} {R : RS} {P : PS} {δ : List Addr} {env : Env} {ρ : Loc} {σ : List MO} {n : Nat} {k : Kd}
theorem drop_fold {α β : Type} (f : β → α → β) (b : β) {l : List α} {i : Nat} {x : α} (e : l[i]? = some x) : (l.drop i).foldl f b = (l.drop (i + 1)).foldl f (f b x) := by
  obtain ⟨hi, rfl⟩ := List.getElem?_eq_some_iff.mp e
  rw [List.drop_eq_getElem_cons hi, List.foldl_cons]
theorem min_loop {S It l : Addr} {xss : List (List (List UInt8))} {A : Around} {Rr : Result → Shared → Prop} (C : TxCmp g k) (hA : AOk A (n + 2) R env) (hSI : S ≠ It) :
    ∀ (r i : Nat) (s : Shared) (vb : Value) (cur : List (List UInt8)) (c : Nat), xss.length - i = r → i ≤ xss.length → Inv g R P δ env ρ σ s.heap → Free R P δ env It → Free R P δ env S → s.heap.IsListIter It l i →
      s.heap.get? S = some { cls := .type "list", dict := none, data := .seq #[vb, vb] c, slots := #[] } → g.Sees P δ vb (lsV k cur) → g.Sees P δ (.ref l) (lssV k xss) →
      (∀ v h', Inv g R P δ env ρ σ h' → g.Sees P δ v (lsV k ((xss.drop i).foldl minS cur)) → Rr (.ok (.ret v)) { s with heap := h' }) →
      codeAny (model g.prog g.w) A (.builtin "min.loop" ⟨[.ref It, .none, .ref S], []⟩) Rr s := by
  have hname : (toString "min" ++ toString ".loop" : String) = "min.loop" := by decide
  intro r
  induction r with
  | zero =>
    intro i s vb cur c hr hi I fI fS hit hS hvb hl hR
    obtain ⟨l', vs, e, hls, hvs⟩ := I.listOf (.inl rfl) hl
    cases e
    have hlen := hvs.length
    rw [List.length_map] at hlen
    refine codeAny_builtin F.entry_min_loop ?_
    rw [Around.under_plainId F.plain_min_loop _]
    show wpAny _ A.in1 (seqItems? (.ref S) >>= _) _ _ s
    refine wpAny_bind (wpAny_seqItems hS rfl ?_)
    show wpAny _ A.in1 (tryCatch (pyNext (.ref It)) _ >>= _) _ _ s
    refine wpAny_bind (wpAny_tryCatch (wpAny_pyNext_list_end hA.handled hit hls (by simp; omega) fun h₁ hk₁ => ?_))
    have hS₁ := hk₁ S _ hSI hS
    have I₁ : Inv g R P δ env ρ σ h₁ := I.keeps fun b o kk e => hk₁ b o (fI.keep kk) e
    show wpAny _ A.in1 (updateSeq S (fun _ => #[]) >>= _) _ _ _
    refine wpAny_bind ?_
    refine wpAny_updateSeq hS₁ rfl (wpAny_bind (wpAny_letGo (wpAny_pure ?_)))
    refine hR vb _ (I₁.sameBut fS (Heap.SameBut.update ..)) ?_
    rw [List.drop_of_length_le (by omega)]; exact hvb
  | succ r ih =>
    intro i s vb cur c hr hi I fI fS hit hS hvb hl hR
    obtain ⟨l', vs, e, hls, hvs⟩ := I.listOf (.inl rfl) hl
    cases e
    have hlen := hvs.length
    rw [List.length_map] at hlen
    have hlt : i < xss.length := by omega
    have hx : xss[i]? = some xss[i] := List.getElem?_eq_getElem hlt
    obtain ⟨v, hv, hsv⟩ := hvs.get (i := i) (x := lsV k xss[i]) (by rw [List.getElem?_map, hx]; rfl)
    refine codeAny_builtin F.entry_min_loop ?_
    rw [Around.under_plainId F.plain_min_loop _]
    show wpAny _ A.in1 (seqItems? (.ref S) >>= _) _ _ s
    refine wpAny_bind (wpAny_seqItems hS rfl ?_)
    show wpAny _ A.in1 (tryCatch (pyNext (.ref It)) _ >>= _) _ _ s
    refine wpAny_bind (wpAny_tryCatch (wpAny_pyNext_list_item hit hls (x := v) (by simpa using hv) fun h₁ hit₁ hs₁ => ?_))
    have hS₁ := (hs₁.2 S hSI).trans hS
    have I₁ := I.sameBut fI hs₁
    have hu : A.in1.in1.units < cLine := by have := hA.units; show A.units + 1 + 1 < 9900; omega
    show wpAny _ A.in1 (tryCatch (holding [v, v] (richCompare .Lt v vb >>= _)) _ >>= _) _ _ _
    refine wpAny_bind (wpAny_tryCatch (wpAny_holding (wpAny_bind ((rc_lists (s := { s with heap := h₁ }) (A := A.in1) C I₁ hu hsv hvb).1 g.prog g.w _ _ ?_))))
    refine wpAny_bind (wpAny_holding (wpAny_truthy_bool ?_))
    refine wpAny_bind (wpAny_letGo (wpAny_pure ?_))
    rw [drop_fold minS cur hx] at hR
    cases hb : ltL xss[i] cur with
    | true =>
      have hm : minS cur xss[i] = xss[i] := by unfold minS; rw [if_pos hb]
      rw [hm] at hR
      simp only [if_true]
      refine wpAny_bind ?_
      refine wpAny_updateSeq hS₁ rfl (wpAny_bind (wpAny_letGo ?_))
      rw [hname]
      have hSu : Heap.SameBut S h₁ _ := Heap.SameBut.update h₁ S (Obj.mapSeq fun _ => #[v, v])
      refine wpAny_pure ⟨plainId_quiet F.plain_min_loop _, ih (i + 1) _ v xss[i] _ (by omega) hlt (I₁.sameBut fS hSu) fI fS ?_ (Heap.get?_update_self _ hS₁ rfl) hsv hl fun v' h' I' hv' => hR v' h' I' hv'⟩
      obtain ⟨o, ho, r⟩ := hit₁
      exact ⟨o, (hSu.2 It (Ne.symm hSI)).trans ho, r⟩
    | false =>
      have hm : minS cur xss[i] = cur := by unfold minS; rw [if_neg (by rw [hb]; decide)]
      rw [hm] at hR
      simp only [Bool.false_eq_true, if_false]
      refine wpAny_bind (wpAny_letGo ?_)
      rw [hname]
      exact wpAny_pure ⟨plainId_quiet F.plain_min_loop _, ih (i + 1) _ vb cur c (by omega) hlt I₁ fI fS hit₁ hS₁ hvb hl fun v' h' I' hv' => hR v' h' I' hv'⟩
theorem op_min {x : List (List UInt8)} {xss : List (List (List UInt8))} (C : TxCmp g k) : Op g (n + 4) σ [lssV k (x :: xss)] (fun vs => call (.builtin "min") vs) (fun P δ v => g.Sees P δ v (lsV k (xss.foldl minS x))) σ := .one fun env ρ A R P δ s Q v hA I hv h => by
  have hname : (toString "min" ++ toString ".loop" : String) = "min.loop" := by decide
  obtain ⟨l, vs, rfl, hls, hvs⟩ := I.listOf (.inl rfl) hv
  obtain ⟨v, us, rfl, hs1, hs2⟩ := SeesL.cons_inv hvs
  refine call_function_tree F.kind_min F.plain_min F.entry_min (F.args_min1 _) ?_
  show wpAny _ A.in1 (Builtin.Builtins.bindParams "min" ["key", "default"] 0 ⟨[], []⟩ >>= _) _ _ s
  refine wpAny_bind (wpAny_of_eq (show Builtin.Builtins.bindParams "min" ["key", "default"] 0 ⟨[], []⟩ = pure [none, none] from rfl) ?_)
  refine wpAny_bind (wpAny_pure ?_)
  refine wpAny_bind (wpAny_pyIter_list hls ?_)
  refine wpAny_bind (wpAny_newObj_type ?_)
  rw [hname]
  generalize hH1 : s.heap.push { cls := .type "list_iterator", data := .fields #[.ref l, .int 0 0] } = H1
  have k1 : ∀ b o, s.heap.get? b = some o → H1.get? b = some o := fun b o e => hH1 ▸ Heap.get?_push_of_some _ e
  have hit : H1.get? s.heap.objs.size = some { cls := .type "list_iterator", data := .fields #[.ref l, .int 0 0] } := hH1 ▸ Heap.get?_push_size _ rfl
  have k2 : ∀ b o, H1.get? b = some o → (H1.push { cls := .type "list", dict := none, data := .seq ([] : List Value).toArray, slots := #[] }).get? b = some o := fun b o e => Heap.get?_push_of_some _ e
  have I₁ := I.grows k1
  have I₂ := I₁.grows k2
  have fI := I.free (get_size_none s.heap)
  have fS := I₁.free (get_size_none H1)
  have hSI : H1.objs.size ≠ s.heap.objs.size := by rw [← hH1, Heap.size_push]; omega
  refine wpAny_pure ⟨plainId_quiet F.plain_min_loop _, codeAny_builtin F.entry_min_loop ?_⟩
  rw [Around.under_plainId F.plain_min_loop _]
  have hS₂ : (H1.push { cls := .type "list", dict := none, data := .seq ([] : List Value).toArray, slots := #[] }).get? H1.objs.size = some { cls := .type "list", dict := none, data := .seq #[] 0, slots := #[] } := Heap.get?_push_size _ rfl
  generalize (H1.push { cls := .type "list", dict := none, data := .seq ([] : List Value).toArray, slots := #[] }) = H2 at k2 I₂ hS₂ ⊢
  obtain ⟨l', vs', e, hls₂, hvs₂⟩ := I₂.listOf (.inl rfl) hv
  cases e
  obtain ⟨v₂, us₂, rfl, hs1₂, hs2₂⟩ := SeesL.cons_inv hvs₂
  show wpAny _ A.in1 (seqItems? (.ref H1.objs.size) >>= _) _ _ _
  refine wpAny_bind (wpAny_seqItems hS₂ rfl ?_)
  show wpAny _ A.in1 (tryCatch (pyNext (.ref s.heap.objs.size)) _ >>= _) _ _ _
  refine wpAny_bind (wpAny_tryCatch (wpAny_pyNext_list_item (i := 0) ⟨_, k2 _ _ hit, rfl, rfl⟩ hls₂ (x := v₂) rfl fun h₃ hit₃ hs₃ => ?_))
  have hS₃ := (hs₃.2 _ hSI).trans hS₂
  have I₃ := I₂.sameBut fI hs₃
  show wpAny _ A.in1 (updateSeq H1.objs.size (fun _ => #[v₂, v₂]) >>= _) _ _ _
  refine wpAny_bind ?_
  refine wpAny_updateSeq hS₃ rfl ?_
  rw [hname]
  have hSu : Heap.SameBut H1.objs.size h₃ _ := Heap.SameBut.update h₃ H1.objs.size (Obj.mapSeq fun _ => #[v₂, v₂])
  refine wpAny_pure ⟨plainId_quiet F.plain_min_loop _, min_loop (n := n) (S := H1.objs.size) (It := s.heap.objs.size) (l := l) (xss := x :: xss) (ρ := ρ) (σ := σ) C (hA.less (by omega)) hSI _ 1 _ v₂ x _ rfl (by simp) (I₃.sameBut fS hSu) fI fS ?_ (Heap.get?_update_self _ hS₃ rfl) hs1₂ hv fun v' h' I' hv' => ?_⟩
  · obtain ⟨o, ho, r⟩ := hit₃
    exact ⟨o, (hSu.2 _ (Ne.symm hSI)).trans ho, r⟩
  · exact h v' P δ h' s.toks (fun _ _ z => z) (List.prefix_refl _) I' hv'
theorem max_loop {S It l : Addr} {xss : List (List (List UInt8))} {A : Around} {Rr : Result → Shared → Prop} (C : TxCmp g k) (hA : AOk A (n + 2) R env) (hSI : S ≠ It) :
    ∀ (r i : Nat) (s : Shared) (vb : Value) (cur : List (List UInt8)) (c : Nat), xss.length - i = r → i ≤ xss.length → Inv g R P δ env ρ σ s.heap → Free R P δ env It → Free R P δ env S → s.heap.IsListIter It l i →
      s.heap.get? S = some { cls := .type "list", dict := none, data := .seq #[vb, vb] c, slots := #[] } → g.Sees P δ vb (lsV k cur) → g.Sees P δ (.ref l) (lssV k xss) →
      (∀ v h', Inv g R P δ env ρ σ h' → g.Sees P δ v (lsV k ((xss.drop i).foldl maxS cur)) → Rr (.ok (.ret v)) { s with heap := h' }) →
      codeAny (model g.prog g.w) A (.builtin "max.loop" ⟨[.ref It, .none, .ref S], []⟩) Rr s := by
  have hname : (toString "max" ++ toString ".loop" : String) = "max.loop" := by decide
  intro r
  induction r with
  | zero =>
    intro i s vb cur c hr hi I fI fS hit hS hvb hl hR
    obtain ⟨l', vs, e, hls, hvs⟩ := I.listOf (.inl rfl) hl
    cases e
    have hlen := hvs.length
    rw [List.length_map] at hlen
    refine codeAny_builtin F.entry_max_loop ?_
    rw [Around.under_plainId F.plain_max_loop _]
    show wpAny _ A.in1 (seqItems? (.ref S) >>= _) _ _ s
    refine wpAny_bind (wpAny_seqItems hS rfl ?_)
    show wpAny _ A.in1 (tryCatch (pyNext (.ref It)) _ >>= _) _ _ s
    refine wpAny_bind (wpAny_tryCatch (wpAny_pyNext_list_end hA.handled hit hls (by simp; omega) fun h₁ hk₁ => ?_))
    have hS₁ := hk₁ S _ hSI hS
    have I₁ : Inv g R P δ env ρ σ h₁ := I.keeps fun b o kk e => hk₁ b o (fI.keep kk) e
    show wpAny _ A.in1 (updateSeq S (fun _ => #[]) >>= _) _ _ _
    refine wpAny_bind ?_
    refine wpAny_updateSeq hS₁ rfl (wpAny_bind (wpAny_letGo (wpAny_pure ?_)))
    refine hR vb _ (I₁.sameBut fS (Heap.SameBut.update ..)) ?_
    rw [List.drop_of_length_le (by omega)]; exact hvb
  | succ r ih =>
    intro i s vb cur c hr hi I fI fS hit hS hvb hl hR
    obtain ⟨l', vs, e, hls, hvs⟩ := I.listOf (.inl rfl) hl
    cases e
    have hlen := hvs.length
    rw [List.length_map] at hlen
    have hlt : i < xss.length := by omega
    have hx : xss[i]? = some xss[i] := List.getElem?_eq_getElem hlt
    obtain ⟨v, hv, hsv⟩ := hvs.get (i := i) (x := lsV k xss[i]) (by rw [List.getElem?_map, hx]; rfl)
    refine codeAny_builtin F.entry_max_loop ?_
    rw [Around.under_plainId F.plain_max_loop _]
    show wpAny _ A.in1 (seqItems? (.ref S) >>= _) _ _ s
    refine wpAny_bind (wpAny_seqItems hS rfl ?_)
    show wpAny _ A.in1 (tryCatch (pyNext (.ref It)) _ >>= _) _ _ s
    refine wpAny_bind (wpAny_tryCatch (wpAny_pyNext_list_item hit hls (x := v) (by simpa using hv) fun h₁ hit₁ hs₁ => ?_))
    have hS₁ := (hs₁.2 S hSI).trans hS
    have I₁ := I.sameBut fI hs₁
    have hu : A.in1.in1.units < cLine := by have := hA.units; show A.units + 1 + 1 < 9900; omega
    show wpAny _ A.in1 (tryCatch (holding [v, v] (richCompare .Gt v vb >>= _)) _ >>= _) _ _ _
    refine wpAny_bind (wpAny_tryCatch (wpAny_holding (wpAny_bind ((rc_lists (s := { s with heap := h₁ }) (A := A.in1) C I₁ hu hsv hvb).2 g.prog g.w _ _ ?_))))
    refine wpAny_bind (wpAny_holding (wpAny_truthy_bool ?_))
    refine wpAny_bind (wpAny_letGo (wpAny_pure ?_))
    rw [drop_fold maxS cur hx] at hR
    cases hb : ltL cur xss[i] with
    | true =>
      have hm : maxS cur xss[i] = xss[i] := by unfold maxS; rw [if_pos hb]
      rw [hm] at hR
      simp only [if_true]
      refine wpAny_bind ?_
      refine wpAny_updateSeq hS₁ rfl (wpAny_bind (wpAny_letGo ?_))
      rw [hname]
      have hSu : Heap.SameBut S h₁ _ := Heap.SameBut.update h₁ S (Obj.mapSeq fun _ => #[v, v])
      refine wpAny_pure ⟨plainId_quiet F.plain_max_loop _, ih (i + 1) _ v xss[i] _ (by omega) hlt (I₁.sameBut fS hSu) fI fS ?_ (Heap.get?_update_self _ hS₁ rfl) hsv hl fun v' h' I' hv' => hR v' h' I' hv'⟩
      obtain ⟨o, ho, r⟩ := hit₁
      exact ⟨o, (hSu.2 It (Ne.symm hSI)).trans ho, r⟩
    | false =>
      have hm : maxS cur xss[i] = cur := by unfold maxS; rw [if_neg (by rw [hb]; decide)]
      rw [hm] at hR
      simp only [Bool.false_eq_true, if_false]
      refine wpAny_bind (wpAny_letGo ?_)
      rw [hname]
      exact wpAny_pure ⟨plainId_quiet F.plain_max_loop _, ih (i + 1) _ vb cur c (by omega) hlt I₁ fI fS hit₁ hS₁ hvb hl fun v' h' I' hv' => hR v' h' I' hv'⟩
theorem op_max {x : List (List UInt8)} {xss : List (List (List UInt8))} (C : TxCmp g k) : Op g (n + 4) σ [lssV k (x :: xss)] (fun vs => call (.builtin "max") vs) (fun P δ v => g.Sees P δ v (lsV k (xss.foldl maxS x))) σ := .one fun env ρ A R P δ s Q v hA I hv h => by
  have hname : (toString "max" ++ toString ".loop" : String) = "max.loop" := by decide
  obtain ⟨l, vs, rfl, hls, hvs⟩ := I.listOf (.inl rfl) hv
  obtain ⟨v, us, rfl, hs1, hs2⟩ := SeesL.cons_inv hvs
  refine call_function_tree F.kind_max F.plain_max F.entry_max (F.args_max1 _) ?_
  show wpAny _ A.in1 (Builtin.Builtins.bindParams "max" ["key", "default"] 0 ⟨[], []⟩ >>= _) _ _ s
  refine wpAny_bind (wpAny_of_eq (show Builtin.Builtins.bindParams "max" ["key", "default"] 0 ⟨[], []⟩ = pure [none, none] from rfl) ?_)
  refine wpAny_bind (wpAny_pure ?_)
  refine wpAny_bind (wpAny_pyIter_list hls ?_)
  refine wpAny_bind (wpAny_newObj_type ?_)
  rw [hname]
  generalize hH1 : s.heap.push { cls := .type "list_iterator", data := .fields #[.ref l, .int 0 0] } = H1
  have k1 : ∀ b o, s.heap.get? b = some o → H1.get? b = some o := fun b o e => hH1 ▸ Heap.get?_push_of_some _ e
  have hit : H1.get? s.heap.objs.size = some { cls := .type "list_iterator", data := .fields #[.ref l, .int 0 0] } := hH1 ▸ Heap.get?_push_size _ rfl
  have k2 : ∀ b o, H1.get? b = some o → (H1.push { cls := .type "list", dict := none, data := .seq ([] : List Value).toArray, slots := #[] }).get? b = some o := fun b o e => Heap.get?_push_of_some _ e
  have I₁ := I.grows k1
  have I₂ := I₁.grows k2
  have fI := I.free (get_size_none s.heap)
  have fS := I₁.free (get_size_none H1)
  have hSI : H1.objs.size ≠ s.heap.objs.size := by rw [← hH1, Heap.size_push]; omega
  refine wpAny_pure ⟨plainId_quiet F.plain_max_loop _, codeAny_builtin F.entry_max_loop ?_⟩
  rw [Around.under_plainId F.plain_max_loop _]
  have hS₂ : (H1.push { cls := .type "list", dict := none, data := .seq ([] : List Value).toArray, slots := #[] }).get? H1.objs.size = some { cls := .type "list", dict := none, data := .seq #[] 0, slots := #[] } := Heap.get?_push_size _ rfl
  generalize (H1.push { cls := .type "list", dict := none, data := .seq ([] : List Value).toArray, slots := #[] }) = H2 at k2 I₂ hS₂ ⊢
  obtain ⟨l', vs', e, hls₂, hvs₂⟩ := I₂.listOf (.inl rfl) hv
  cases e
  obtain ⟨v₂, us₂, rfl, hs1₂, hs2₂⟩ := SeesL.cons_inv hvs₂
  show wpAny _ A.in1 (seqItems? (.ref H1.objs.size) >>= _) _ _ _
  refine wpAny_bind (wpAny_seqItems hS₂ rfl ?_)
  show wpAny _ A.in1 (tryCatch (pyNext (.ref s.heap.objs.size)) _ >>= _) _ _ _
  refine wpAny_bind (wpAny_tryCatch (wpAny_pyNext_list_item (i := 0) ⟨_, k2 _ _ hit, rfl, rfl⟩ hls₂ (x := v₂) rfl fun h₃ hit₃ hs₃ => ?_))
  have hS₃ := (hs₃.2 _ hSI).trans hS₂
  have I₃ := I₂.sameBut fI hs₃
  show wpAny _ A.in1 (updateSeq H1.objs.size (fun _ => #[v₂, v₂]) >>= _) _ _ _
  refine wpAny_bind ?_
  refine wpAny_updateSeq hS₃ rfl ?_
  rw [hname]
  have hSu : Heap.SameBut H1.objs.size h₃ _ := Heap.SameBut.update h₃ H1.objs.size (Obj.mapSeq fun _ => #[v₂, v₂])
  refine wpAny_pure ⟨plainId_quiet F.plain_max_loop _, max_loop (n := n) (S := H1.objs.size) (It := s.heap.objs.size) (l := l) (xss := x :: xss) (ρ := ρ) (σ := σ) C (hA.less (by omega)) hSI _ 1 _ v₂ x _ rfl (by simp) (I₃.sameBut fS hSu) fI fS ?_ (Heap.get?_update_self _ hS₃ rfl) hs1₂ hv fun v' h' I' hv' => ?_⟩
  · obtain ⟨o, ho, r⟩ := hit₃
    exact ⟨o, (hSu.2 _ (Ne.symm hSI)).trans ho, r⟩
  · exact h v' P δ h' s.toks (fun _ _ z => z) (List.prefix_refl _) I' hv'
end
end Mine
end
section
open PySem PySem.W PyProof.Rows
set_option Elab.async false
namespace Mine
theorem vlen1 {vs : List Value} (h : vs.length = 1) : ∃ a, vs = [a] := List.length_eq_one_iff.mp h
theorem vlenS {n : Nat} {vs : List Value} (h : vs.length = n + 1) : ∃ a us, vs = a :: us ∧ us.length = n := by
  cases vs with
  | nil => cases h
  | cons a us => exact ⟨a, us, rfl, Nat.succ.inj h⟩
theorem vlen2 {vs : List Value} (h : vs.length = 2) : ∃ a b, vs = [a, b] := by
  obtain ⟨a, us, rfl, h2⟩ := vlenS h
  obtain ⟨b, rfl⟩ := vlen1 h2
  exact ⟨a, b, rfl⟩
theorem vlen3 {vs : List Value} (h : vs.length = 3) : ∃ a b c, vs = [a, b, c] := by
  obtain ⟨a, us, rfl, h2⟩ := vlenS h
  obtain ⟨b, c, rfl⟩ := vlen2 h2
  exact ⟨a, b, c, rfl⟩
theorem vlen4 {vs : List Value} (h : vs.length = 4) : ∃ a b c d, vs = [a, b, c, d] := by
  obtain ⟨a, us, rfl, h2⟩ := vlenS h
  obtain ⟨b, c, d, rfl⟩ := vlen3 h2
  exact ⟨a, b, c, d, rfl⟩
end Mine
end
section
open PySem PySem.W PyProof.Rows PySem.Calls PySem.SeqAt
set_option Elab.async false
set_option linter.unusedVariables false
set_option maxRecDepth 100000
namespace Mine
abbrev pw : Program := PySem.Challenge.pw_il0031_02
section
variable {g : Glo} (H : Has g pw) {k : Kd} (T : TxOps g k)
include H
theorem c_fspath (k : Kd) (l : List UInt8) (σ : List MO) : Fn g 2 "fspath" [.tx k l] σ (.tx k l) σ := by
  refine fn_at ["path"] (H.defs 10 _ _ _ _ _ _ _ _ _ _ rfl (by decide)) (fun _ _ _ vs h => by obtain ⟨_, rfl⟩ := vlen1 h; rfl) ?_
  refine ex_step (ex1_assign (ev_typecall (evl_cons ev_name evl_nil) op_type)) ?_
  refine ex_if (evb_val rfl (ev_blt (evl_cons ev_name (evl_cons (ev_tuple (evl_cons ev_type (evl_cons ev_type evl_nil))) evl_nil)) op_issub) tr_bool) (fun _ => ?_) (fun h => nomatch h)
  exact ex_ret ev_name ret_end
theorem c_get_sep (k : Kd) (l : List UInt8) (σ : List MO) : Fn g 2 "_get_sep" [.tx k l] σ (.tx k [47]) σ := by
  refine fn_at ["path"] (H.defs 15 _ _ _ _ _ _ _ _ _ _ rfl (by decide)) (fun _ _ _ vs h => by obtain ⟨_, rfl⟩ := vlen1 h; rfl) ?_
  refine ex_if (evb_val rfl (ev_blt (evl_cons ev_name (evl_cons ev_type evl_nil)) op_isbytes) tr_bool) (fun h => ?_) (fun h => ?_)
  · cases k with
    | s => cases h
    | b => exact ex_ret ev_bytes ret_end
  · cases k with
    | s => exact ex_ret (ev_str (by decide +kernel)) ret_end
    | b => cases h
include T
theorem c_isabs (l : List UInt8) (σ : List MO) : Fn g 4 "isabs" [.tx k l] σ (.bool (l.head? == some 47)) σ := by
  refine fn_at ["s"] (H.defs 16 _ _ _ _ _ _ _ _ _ _ rfl (by decide)) (fun _ _ _ vs h => by obtain ⟨_, rfl⟩ := vlen1 h; rfl) ?_
  refine ex_step ex1_doc ?_
  refine ex_step (ex1_assign (ev_call 2 (evl_cons ev_name evl_nil) (c_fspath H k l σ))) ?_
  refine ex_step (ex1_assign (ev_call 2 (evl_cons ev_name evl_nil) (c_get_sep H k l σ))) ?_
  exact ex_ret (ev_meth ev_name (evl_cons ev_name evl_nil) (T.starts _ _ _ _)) ret_end
end
end Mine
end
section
open PySem PySem.W PyProof.Rows PySem.Calls PySem.SeqAt
set_option Elab.async false
set_option linter.unusedVariables false
set_option maxRecDepth 100000
namespace Mine

/-- what the defs of the module compute, in octets -/
noncomputable def isRun (p : List UInt8) : Bool := p == rep p.length [47]
noncomputable def hd' (p : List UInt8) : List UInt8 := if !p.isEmpty && !isRun p then rst 47 p else p
noncomputable def dn (p : List UInt8) : List UInt8 := hd' (p.take (aft 47 p))
noncomputable def bn (p : List UInt8) : List UInt8 := p.drop (aft 47 p)
noncomputable def jo (p b : List UInt8) : List UInt8 := if b.head? == some 47 || p.isEmpty then b else if p.getLast? == some 47 then p ++ b else p ++ ([47] ++ b)
noncomputable def srt (p : List UInt8) : List UInt8 × List UInt8 :=
  if p.take 1 != [47] then ([], p) else if (p.take 2).drop 1 != [47] || (p.take 3).drop 2 == [47] then ([47], p.drop 1) else (p.take 2, p.drop 2)
noncomputable def sx (p : List UInt8) : List UInt8 × List UInt8 :=
  if aft 47 p < aft 46 p && ((p.take (aft 46 p - 1)).drop (aft 47 p)).any (· != 46) then (p.take (aft 46 p - 1), p.drop (aft 46 p - 1)) else (p, [])

theorem rep_one (n : Nat) (c : UInt8) : rep n [c] = List.replicate n c := by
  unfold rep
  induction n with
  | zero => rfl
  | succ n ih => rw [List.replicate_succ, List.flatten_cons, ih, List.replicate_succ]; rfl
theorem aft_le (c : UInt8) (l : List UInt8) : aft c l ≤ l.length := by unfold aft; omega
theorem rst_len (c : UInt8) (l : List UInt8) : (rst c l).length ≤ l.length := by
  unfold rst
  rw [List.length_reverse]
  exact Nat.le_trans (List.dropWhile_sublist _).length_le (by simp)
theorem jo_len (p b : List UInt8) : (jo p b).length ≤ p.length + b.length + 1 := by
  unfold jo
  split
  · omega
  · split <;> simp <;> omega

section
variable {g : Glo} (H : Has g pw) {k : Kd} (T : TxOps g k) {σ : List MO}
include H T
theorem c_basename (p : List UInt8) (hz : p.length ≤ 1000000) : Fn g 4 "basename" [.tx k p] σ (.tx k (bn p)) σ := by
  refine fn_at ["p"] (H.defs 22 _ _ _ _ _ _ _ _ _ _ rfl (by decide)) (fun _ _ _ vs h => by obtain ⟨_, rfl⟩ := vlen1 h; rfl) ?_
  refine ex_step ex1_doc ?_
  refine ex_step (ex1_assign (ev_call 2 (evl_cons ev_name evl_nil) (c_fspath H k p σ))) ?_
  refine ex_step (ex1_assign (ev_call 2 (evl_cons ev_name evl_nil) (c_get_sep H k p σ))) ?_
  refine ex_step (ex1_assign (ev_bin (ev_meth ev_name (evl_cons ev_name evl_nil) (T.rfind _ _ p 47)) ev_int op_add_int)) ?_
  have e : ((aft 47 p : Int) - 1 + 1) = (aft 47 p : Nat) := by omega
  rw [e]
  refine ex_ret (ev_slc T.slc ev_name (evp_some ev_name) evp_none (by omega)) ?_
  rw [psl_from]
  exact ret_end
/-- the head of a path, without the slashes at its end -/
theorem c_dirname (p : List UInt8) (hz : p.length ≤ 1000000) : Fn g 4 "dirname" [.tx k p] σ (.tx k (dn p)) σ := by
  have hlen : (p.take (aft 47 p)).length ≤ p.length := by rw [List.length_take]; omega
  refine fn_at ["p"] (H.defs 23 _ _ _ _ _ _ _ _ _ _ rfl (by decide)) (fun _ _ _ vs h => by obtain ⟨_, rfl⟩ := vlen1 h; rfl) ?_
  refine ex_step ex1_doc ?_
  refine ex_step (ex1_assign (ev_call 2 (evl_cons ev_name evl_nil) (c_fspath H k p σ))) ?_
  refine ex_step (ex1_assign (ev_call 2 (evl_cons ev_name evl_nil) (c_get_sep H k p σ))) ?_
  refine ex_step (ex1_assign (ev_bin (ev_meth ev_name (evl_cons ev_name evl_nil) (T.rfind _ _ p 47)) ev_int op_add_int)) ?_
  have e : ((aft 47 p : Int) - 1 + 1) = (aft 47 p : Nat) := by omega
  rw [e]
  refine ex_step (ex1_assign (ev_slc T.slc ev_name evp_none (evp_some ev_name) (by omega))) ?_
  rw [psl_upto]
  refine ex_if (evb_and (evb_val rfl ev_name (tr_tx (by omega))) fun _ => evb_cmp ev_name (ev_bin ev_name (ev_blt (evl_cons ev_name evl_nil) (op_len_tx (by omega))) (T.mul _ _ [47] _ (by simp) (by simp) (by omega))) op_ne_tx) (fun h => ?_) (fun h => ?_)
  · refine ex_step (ex1_assign (ev_meth ev_name (evl_cons ev_name evl_nil) (T.rstrip _ _ _ 47 (by omega)))) ?_
    refine ex_ret ev_name ?_
    have : dn p = rst 47 (p.take (aft 47 p)) := by
      unfold dn hd' isRun
      rw [if_pos (by simpa [bne] using h)]
    rw [this]
    exact ret_end
  · refine ex_ret ev_name ?_
    have : dn p = p.take (aft 47 p) := by
      unfold dn hd' isRun
      rw [if_neg (by simpa [bne] using h)]
    rw [this]
    exact ret_end
theorem c_split (p : List UInt8) (hz : p.length ≤ 1000000) : Fn g 4 "split" [.tx k p] σ (.tup [.tx k (dn p), .tx k (bn p)]) σ := by
  have hlen : (p.take (aft 47 p)).length ≤ p.length := by rw [List.length_take]; omega
  refine fn_at ["p"] (H.defs 18 _ _ _ _ _ _ _ _ _ _ rfl (by decide)) (fun _ _ _ vs h => by obtain ⟨_, rfl⟩ := vlen1 h; rfl) ?_
  refine ex_step ex1_doc ?_
  refine ex_step (ex1_assign (ev_call 2 (evl_cons ev_name evl_nil) (c_fspath H k p σ))) ?_
  refine ex_step (ex1_assign (ev_call 2 (evl_cons ev_name evl_nil) (c_get_sep H k p σ))) ?_
  refine ex_step (ex1_assign (ev_bin (ev_meth ev_name (evl_cons ev_name evl_nil) (T.rfind _ _ p 47)) ev_int op_add_int)) ?_
  have e : ((aft 47 p : Int) - 1 + 1) = (aft 47 p : Nat) := by omega
  rw [e]
  refine ex_step (ex1_swap (ev_tuple (evl_cons (ev_slc T.slc ev_name evp_none (evp_some ev_name) (by omega)) (evl_cons (ev_slc T.slc ev_name (evp_some ev_name) evp_none (by omega)) evl_nil)))) ?_
  rw [psl_upto, psl_from]
  refine ex_if (evb_and (evb_val rfl ev_name (tr_tx (by omega))) fun _ => evb_cmp ev_name (ev_bin ev_name (ev_blt (evl_cons ev_name evl_nil) (op_len_tx (by omega))) (T.mul _ _ [47] _ (by simp) (by simp) (by omega))) op_ne_tx) (fun h => ?_) (fun h => ?_)
  · refine ex_step (ex1_assign (ev_meth ev_name (evl_cons ev_name evl_nil) (T.rstrip _ _ _ 47 (by omega)))) ?_
    have : dn p = rst 47 (p.take (aft 47 p)) := by
      unfold dn hd' isRun
      rw [if_pos (by simpa [bne] using h)]
    rw [this]
    exact ex_ret (ev_tuple (evl_cons ev_name (evl_cons ev_name evl_nil))) ret_end
  · have : dn p = p.take (aft 47 p) := by
      unfold dn hd' isRun
      rw [if_neg (by simpa [bne] using h)]
    rw [this]
    exact ex_ret (ev_tuple (evl_cons ev_name (evl_cons ev_name evl_nil))) ret_end
end
end Mine
end
section
open PySem PySem.W PyProof.Rows PySem.Calls PySem.SeqAt
set_option Elab.async false
set_option linter.unusedVariables false
set_option maxRecDepth 100000
namespace Mine
theorem at_slice (l : List UInt8) (i : Nat) (c : UInt8) : ((l.take (i + 1)).drop i == [c]) = (l[i]? == some c) := by
  rw [List.drop_take]
  have : i + 1 - i = 1 := by omega
  rw [this, Bool.eq_iff_iff, beq_iff_eq, beq_iff_eq]
  by_cases h : i < l.length
  · have e : (l.drop i).take 1 = [l[i]] := by rw [List.drop_eq_getElem_cons h]; rfl
    rw [e, List.getElem?_eq_getElem h]; simp
  · rw [List.drop_of_length_le (by omega), List.getElem?_eq_none (by omega)]; simp
section
variable {g : Glo} (H : Has g pw) {k : Kd} (T : TxOps g k) {σ : List MO}
include H T
theorem c_splitroot (p : List UInt8) (hz : p.length ≤ 1000000) : Fn g 4 "splitroot" [.tx k p] σ (.tup [.tx k [], .tx k (srt p).1, .tx k (srt p).2]) σ := by
  refine fn_at ["p"] (H.defs 21 _ _ _ _ _ _ _ _ _ _ rfl (by decide)) (fun _ _ _ vs h => by obtain ⟨_, rfl⟩ := vlen1 h; rfl) ?_
  refine ex_step ex1_doc ?_
  refine ex_step (ex1_assign (ev_call 2 (evl_cons ev_name evl_nil) (c_fspath H k p σ))) ?_
  refine ex_ifj (σ' := σ) (ρ' := [("empty", .tx k []), ("sep", .tx k [47]), ("p", .tx k p)]) (evb_val rfl (ev_blt (evl_cons ev_name (evl_cons ev_type evl_nil)) op_isbytes) tr_bool) (fun h => ?_) (fun h => ?_) ?_
  · cases k with
    | s => cases h
    | b => exact ex_step (ex1_assign ev_bytes) (ex_step (ex1_assign ev_bytes) (ex_nil ⟨_, rfl, sub_of ⟨rfl, rfl, rfl, trivial⟩⟩))
  · cases k with
    | s => exact ex_step (ex1_assign (ev_str (l := [47]) (by decide +kernel))) (ex_step (ex1_assign (ev_str (l := []) (by decide +kernel))) (ex_nil ⟨_, rfl, sub_of ⟨rfl, rfl, rfl, trivial⟩⟩))
    | b => cases h
  have e1 : psl p none (some 1) = p.take 1 := psl_upto p 1
  have e2 : psl p (some 1) (some 2) = (p.take 2).drop 1 := psl_mid p 1 2
  have e3 : psl p (some 2) (some 3) = (p.take 3).drop 2 := psl_mid p 2 3
  have e4 : psl p (some 1) none = p.drop 1 := psl_from p 1
  have e5 : psl p none (some 2) = p.take 2 := psl_upto p 2
  have e6 : psl p (some 2) none = p.drop 2 := psl_from p 2
  refine ex_if (evb_cmp (ev_slc T.slc ev_name evp_none (evp_some ev_int) (by omega)) ev_name op_ne_tx) (fun h => ?_) (fun h => ?_)
  · rw [e1] at h
    refine ex_ret (ev_tuple (evl_cons ev_name (evl_cons ev_name (evl_cons ev_name evl_nil)))) ?_
    have : srt p = ([], p) := by unfold srt; rw [if_pos h]
    rw [this]; exact ret_end
  · rw [e1] at h
    refine ex_if (evb_or (evb_cmp (ev_slc T.slc ev_name (evp_some ev_int) (evp_some ev_int) (by omega)) ev_name op_ne_tx) fun _ => evb_cmp (ev_slc T.slc ev_name (evp_some ev_int) (evp_some ev_int) (by omega)) ev_name op_eq_tx) (fun h' => ?_) (fun h' => ?_)
    · rw [e2, e3] at h'
      refine ex_ret (ev_tuple (evl_cons ev_name (evl_cons ev_name (evl_cons (ev_slc T.slc ev_name (evp_some ev_int) evp_none (by omega)) evl_nil)))) ?_
      have : srt p = ([47], p.drop 1) := by unfold srt; rw [if_neg (by simp [h]), if_pos h']
      rw [this, e4]; exact ret_end
    · rw [e2, e3] at h'
      refine ex_ret (ev_tuple (evl_cons ev_name (evl_cons (ev_slc T.slc ev_name evp_none (evp_some ev_int) (by omega)) (evl_cons (ev_slc T.slc ev_name (evp_some ev_int) evp_none (by omega)) evl_nil)))) ?_
      have : srt p = (p.take 2, p.drop 2) := by unfold srt; rw [if_neg (by rw [h]; decide), if_neg (by rw [h']; decide)]
      rw [this, e5, e6]; exact ret_end

theorem c_splitext_ (p : List UInt8) (hz : p.length ≤ 1000000) : Fn g 4 "_splitext" [.tx k p, .tx k [47], .none, .tx k [46]] σ (.tup [.tx k (sx p).1, .tx k (sx p).2]) σ := by
  refine fn_at ["p", "sep", "altsep", "extsep"] (H.defs 12 _ _ _ _ _ _ _ _ _ _ rfl (by decide)) (fun _ _ _ vs h => by obtain ⟨_, _, _, _, rfl⟩ := vlen4 h; rfl) ?_
  have h47 := aft_le 47 p
  have h46 := aft_le 46 p
  refine ex_step ex1_doc ?_
  refine ex_step (ex1_assign (ev_meth ev_name (evl_cons ev_name evl_nil) (T.rfind _ _ p 47))) ?_
  refine ex_if (evb_val rfl ev_name tr_none) (fun h => nomatch h) (fun _ => ?_)
  refine ex_step (ex1_assign (ev_meth ev_name (evl_cons ev_name evl_nil) (T.rfind _ _ p 46))) ?_
  have eN : psl p none (some 0) = [] := (psl_upto p 0).trans List.take_zero
  refine ex_if (evb_cmp ev_name ev_name op_gt_int) (fun h => ?_) (fun h => ?_)
  · have hlt : aft 47 p < aft 46 p := by have := of_decide_eq_true h; omega
    refine ex_step (ex1_assign (ev_bin ev_name ev_int op_add_int)) ?_
    refine ex_while (fun i => [("filenameIndex", .int ((aft 47 p + i : Nat) : Int)), ("dotIndex", .int ((aft 46 p : Int) - 1)), ("p", .tx k p), ("extsep", .tx k [46])]) (fun _ => σ) (fun i => ∀ j, j < i → p[aft 47 p + j]? = some 46) (aft 46 p - 1 - aft 47 p) rfl
      (sub_of ⟨by show some (V.int ((aft 47 p : Int) - 1 + 1)) = _; congr 2; push_cast; omega, rfl, rfl, rfl, trivial⟩) (fun j hj => absurd hj (Nat.not_lt_zero _)) (fun i hi hok => ⟨?_, ?_⟩) (fun hok => ⟨?_, ?_⟩)
    · exact evb_eq (evb_cmp ev_name ev_name op_lt_int) (by apply decide_eq_true; omega)
    · have e1 : psl p (some ((aft 47 p + i : Nat) : Int)) (some (((aft 47 p + i : Nat) : Int) + 1)) = (p.take (aft 47 p + i + 1)).drop (aft 47 p + i) := psl_mid p (aft 47 p + i) (aft 47 p + i + 1)
      refine ex_if (evb_cmp (ev_slc T.slc ev_name (evp_some ev_name) (evp_some (ev_bin ev_name ev_int op_add_int)) (by omega)) ev_name op_ne_tx) (fun hc => ?_) (fun hc => ?_)
      · rw [e1, bne, at_slice] at hc
        have e2 : psl p none (some ((aft 46 p : Int) - 1)) = p.take (aft 46 p - 1) := by
          have : ((aft 46 p : Int) - 1) = ((aft 46 p - 1 : Nat) : Int) := by omega
          rw [this]; exact psl_upto p _
        have e3 : psl p (some ((aft 46 p : Int) - 1)) none = p.drop (aft 46 p - 1) := by
          have : ((aft 46 p : Int) - 1) = ((aft 46 p - 1 : Nat) : Int) := by omega
          rw [this]; exact psl_from p _
        refine ex_ret (ev_tuple (evl_cons (ev_slc T.slc ev_name evp_none (evp_some ev_name) (by omega)) (evl_cons (ev_slc T.slc ev_name (evp_some ev_name) evp_none (by omega)) evl_nil))) (.rt ?_)
        have : sx p = (p.take (aft 46 p - 1), p.drop (aft 46 p - 1)) := by
          unfold sx
          rw [if_pos]
          rw [decide_eq_true hlt, Bool.true_and, List.any_eq_true]
          have hi' : aft 47 p + i < p.length := by omega
          refine ⟨p[aft 47 p + i], ?_, ?_⟩
          · refine List.mem_iff_getElem?.mpr ⟨i, ?_⟩
            rw [List.getElem?_drop, List.getElem?_take, if_pos (by omega), List.getElem?_eq_getElem hi']
          · rw [List.getElem?_eq_getElem hi'] at hc
            simpa using hc
        rw [this, e2, e3]; exact ret_end
      · rw [e1, bne, at_slice] at hc
        refine ex_step (ex1_aug ev_int op_iadd_int) (ex_nil (.nx (fun j hj => ?_) (sub_of ⟨by show some (V.int (((aft 47 p + i : Nat) : Int) + 1)) = _; congr 2, rfl, rfl, rfl, trivial⟩)))
        rcases Nat.lt_succ_iff_lt_or_eq.mp hj with hj | rfl
        · exact hok j hj
        · simpa using hc
    · exact evb_eq (evb_cmp ev_name ev_name op_lt_int) (by apply decide_eq_false; omega)
    · refine ex_ret (ev_tuple (evl_cons ev_name (evl_cons (ev_slc T.slc ev_name evp_none (evp_some ev_int) (by omega)) evl_nil))) ?_
      have : sx p = (p, []) := by
        unfold sx
        rw [if_neg]
        rw [decide_eq_true hlt, Bool.true_and, List.any_eq_true]
        rintro ⟨c, hc, hne⟩
        obtain ⟨j, hj⟩ := List.mem_iff_getElem?.mp hc
        rw [List.getElem?_drop, List.getElem?_take] at hj
        split at hj
        · rw [hok j (by omega)] at hj
          cases hj; exact absurd hne (by decide)
        · cases hj
      rw [this, eN]; exact ret_end
  · refine ex_ret (ev_tuple (evl_cons ev_name (evl_cons (ev_slc T.slc ev_name evp_none (evp_some ev_int) (by omega)) evl_nil))) ?_
    have : sx p = (p, []) := by
      unfold sx
      have : ¬ aft 47 p < aft 46 p := by have := of_decide_eq_false h; omega
      rw [if_neg (by simp [this])]
    rw [this, eN]; exact ret_end
end
end Mine
end
section
open PySem PySem.W PyProof.Rows PySem.Calls PySem.SeqAt
set_option Elab.async false
set_option linter.unusedVariables false
set_option maxRecDepth 100000
namespace Mine
noncomputable def jos (a : List UInt8) (ps : List (List UInt8)) : List UInt8 := ps.foldl jo a
noncomputable def tot (ps : List (List UInt8)) : Nat := (ps.map fun p => p.length + 1).sum
theorem tot_cons (p : List UInt8) (ps : List (List UInt8)) : tot (p :: ps) = p.length + 1 + tot ps := by unfold tot; rw [List.map_cons, List.sum_cons]
theorem jos_len : ∀ (ps : List (List UInt8)) (a : List UInt8), (jos a ps).length ≤ a.length + tot ps
  | [], a => by simp [jos, tot]
  | p :: ps, a => by
    have h1 := jos_len ps (jo a p)
    have h2 := jo_len a p
    show (jos (jo a p) ps).length ≤ _
    rw [tot_cons]; omega
theorem tot_take : ∀ (ps : List (List UInt8)) (i : Nat), tot (ps.take i) ≤ tot ps
  | [], i => by simp [tot]
  | p :: ps, 0 => by simp [tot]
  | p :: ps, i + 1 => by
    have := tot_take ps i
    rw [List.take_succ_cons, tot_cons, tot_cons]; omega
theorem tot_get : ∀ (ps : List (List UInt8)) (i : Nat) (b : List UInt8), ps[i]? = some b → tot (ps.take i) + b.length + 1 ≤ tot ps
  | [], i, b, e => by simp at e
  | p :: ps, 0, b, e => by
    cases e
    rw [tot_cons]; simp [tot]
  | p :: ps, i + 1, b, e => by
    have := tot_get ps i b (by simpa using e)
    rw [List.take_succ_cons, tot_cons, tot_cons]; omega
theorem jos_succ {a b : List UInt8} {ps : List (List UInt8)} {i : Nat} (e : ps[i]? = some b) : jos a (ps.take (i + 1)) = jo (jos a (ps.take i)) b := by
  have hi := (List.getElem?_eq_some_iff.mp e).1
  have : ps.take (i + 1) = ps.take i ++ [b] := by
    rw [List.take_add_one, e]; rfl
  rw [this]
  unfold jos
  rw [List.foldl_append]; rfl
/-- one piece of a path, taken up -/
noncomputable def npS (rooted : Bool) (acc : List (List UInt8)) (c : List UInt8) : List (List UInt8) :=
  if c.isEmpty || c == [46] then acc
  else if c != [46, 46] || (!rooted && acc.isEmpty) || (!acc.isEmpty && acc.getLast? == some [46, 46]) then acc ++ [c]
  else acc.dropLast
noncomputable def npC (p : List UInt8) : List (List UInt8) := (spl 47 (srt p).2).foldl (npS (!(srt p).1.isEmpty)) []
noncomputable def np (p : List UInt8) : List UInt8 :=
  if p.isEmpty then [46] else
  let r := (srt p).1 ++ jn [47] (npC p)
  if r.isEmpty then [46] else r
theorem srt_len (p : List UInt8) : (srt p).1.length ≤ p.length ∧ (srt p).2.length ≤ p.length ∧ (srt p).1.length ≤ 2 := by
  unfold srt
  cases p with
  | nil => simp
  | cons a r =>
    split
    · simp
    · split
      · simp
      · simp; omega
theorem npS_sum (r : Bool) (acc : List (List UInt8)) (c : List UInt8) : tot (npS r acc c) ≤ tot acc + c.length + 1 := by
  unfold npS
  split
  · omega
  · split
    · unfold tot; simp [List.sum_append]; omega
    · have : tot acc.dropLast ≤ tot acc := by rw [List.dropLast_eq_take]; exact tot_take acc _
      omega
theorem npF_sum (r : Bool) : ∀ (cs acc : List (List UInt8)), tot (cs.foldl (npS r) acc) ≤ tot acc + tot cs
  | [], acc => by simp [tot]
  | c :: cs, acc => by
    have h1 := npF_sum r cs (npS r acc c)
    have h2 := npS_sum r acc c
    rw [List.foldl_cons, tot_cons]; omega
theorem spl_tot (c : UInt8) : ∀ l, tot (spl c l) = l.length + 1
  | [] => by simp [spl, tot]
  | x :: r => by
    have ih := spl_tot c r
    unfold spl
    split
    · rw [tot_cons, ih]; simp; omega
    · obtain ⟨p, q, e⟩ := List.exists_cons_of_ne_nil (spl_ne c r)
      rw [e] at ih ⊢
      rw [tot_cons] at ih
      show tot ((x :: p) :: q) = _
      rw [tot_cons]; simp; omega
theorem tot_length (ps : List (List UInt8)) : ps.length ≤ tot ps := by
  induction ps with
  | nil => simp [tot]
  | cons p r ih => rw [tot_cons]; simp; omega

theorem jn_len : ∀ (ps : List (List UInt8)), (jn [47] ps).length ≤ tot ps
  | [] => by simp [jn]
  | [p] => by rw [tot_cons]; simp [jn, tot]
  | p :: q :: r => by
    have := jn_len (q :: r)
    rw [tot_cons]
    show (p ++ [47] ++ jn [47] (q :: r)).length ≤ _
    simp; omega
theorem bind_ap (name : Str) (body : List Stmt) (scope : Scope) (pm cd doc v : Value) (vs : List Value) (p1 p2 : Pos) : bindArgs (docDef name { posonlyargs := [], args := [⟨"a", none, p1⟩], vararg := some ⟨"p", none, p2⟩, kwonlyargs := [], kw_defaults := [], kwarg := none, defaults := [] } body scope pm cd doc) ⟨v :: vs, []⟩ = (newTuple vs >>= fun t => pure [(("a" : Str), v), (("p" : Str), t)]) := by
  unfold bindArgs
  dsimp only [docDef]
  simp only [List.map, List.length, List.zip, List.zipWith, List.nil_append, List.forIn_nil, pure_bind, List.filter]
  have e : seqItems? Value.none = pure none := rfl
  simp only [e, pure_bind, Option.isNone_some, Bool.and_false, Bool.false_eq_true, if_false]
  rfl

section
variable {g : Glo} (H : Has g pw) {k : Kd} (T : TxOps g k) {σ : List MO}
include H T
theorem c_splitext (p : List UInt8) (hz : p.length ≤ 1000000) : Fn g 6 "splitext" [.tx k p] σ (.tup [.tx k (sx p).1, .tx k (sx p).2]) σ := by
  refine fn_at ["p"] (H.defs 19 _ _ _ _ _ _ _ _ _ _ rfl (by decide)) (fun _ _ _ vs h => by obtain ⟨_, rfl⟩ := vlen1 h; rfl) ?_
  refine ex_step (ex1_assign (ev_call 2 (evl_cons ev_name evl_nil) (c_fspath H k p σ))) ?_
  refine ex_ifj (σ' := σ) (ρ' := [("extsep", .tx k [46]), ("sep", .tx k [47]), ("p", .tx k p)]) (evb_val rfl (ev_blt (evl_cons ev_name (evl_cons ev_type evl_nil)) op_isbytes) tr_bool) (fun h => ?_) (fun h => ?_) ?_
  · cases k with
    | s => cases h
    | b => exact ex_step (ex1_assign ev_bytes) (ex_step (ex1_assign ev_bytes) (ex_nil ⟨_, rfl, sub_of ⟨rfl, rfl, rfl, trivial⟩⟩))
  · cases k with
    | s => exact ex_step (ex1_assign (ev_str (l := [47]) (by decide +kernel))) (ex_step (ex1_assign (ev_str (l := [46]) (by decide +kernel))) (ex_nil ⟨_, rfl, sub_of ⟨rfl, rfl, rfl, trivial⟩⟩))
    | b => cases h
  exact ex_ret (ev_call 4 (evl_cons ev_name (evl_cons ev_name (evl_cons ev_none (evl_cons ev_name evl_nil)))) (c_splitext_ H T p hz)) ret_end

theorem c_join (a : List UInt8) (ps : List (List UInt8)) (hz : a.length + tot ps ≤ 1000000) : Fn g 4 "join" (.tx k a :: ps.map (.tx k)) σ (.tx k (jos a ps)) σ := by
  have hpl := tot_length ps
  refine fn_gen (d := ⟨_, _, _, _, _⟩) (H.defs 17 _ _ _ _ _ _ _ _ _ _ rfl (by decide)) (bind_var "a" "p" (fun _ _ _ v vs => bind_ap _ _ _ _ _ _ v vs _ _) (by decide +kernel) (by decide +kernel) (by decide +kernel) (by simp; omega)) ?_
  refine ex_step ex1_doc ?_
  refine ex_step (ex1_assign (ev_call 2 (evl_cons ev_name evl_nil) (c_fspath H k a σ))) ?_
  refine ex_step (ex1_assign (ev_call 2 (evl_cons ev_name evl_nil) (c_get_sep H k a σ))) ?_
  refine ex_step (ex1_assign ev_name) ?_
  refine ex_try (ex_for (fun i => [("path", .tx k (jos a (ps.take i))), ("sep", .tx k [47])]) (fun _ => σ) (fun _ => True) (src_tup ev_name rfl) (sub_of ⟨rfl, rfl, trivial⟩) trivial (fun i y hy _ => ?_) (fun _ => ?_))
  · rw [List.getElem?_map] at hy
    obtain ⟨b, hb, rfl⟩ := Option.map_eq_some_iff.mp hy
    have h1 := jos_len (ps.take i) a
    have h2 := tot_get ps i b hb
    refine ⟨_, asg_name, ?_⟩
    refine ex_step (ex1_assign (ev_call 2 (evl_cons ev_name evl_nil) (c_fspath H k b σ))) ?_
    have fin : ∀ r : Loc, AllIn [("path", .tx k (jo (jos a (ps.take i)) b)), ("sep", .tx k [47])] r → ∀ {B Φ}, Lp [("path", .tx k (jos a (ps.take (i + 1)))), ("sep", .tx k [47])] σ True B Φ (.nx r σ) := by
      intro r hr B Φ
      refine .nx trivial (sub_of ?_)
      rw [jos_succ hb]; exact hr
    refine ex_if (evb_or (evb_val rfl (ev_meth ev_name (evl_cons ev_name evl_nil) (T.starts _ _ b 47)) tr_bool) fun _ => evb_not (evb_val rfl ev_name (tr_tx (by omega)))) (fun h => ?_) (fun h => ?_)
    · refine ex_step (ex1_assign ev_name) (ex_nil (fin _ ⟨?_, rfl, trivial⟩))
      have : jo (jos a (ps.take i)) b = b := by unfold jo; rw [if_pos (by simpa using h)]
      rw [this]; rfl
    · refine ex_if (evb_val rfl (ev_meth ev_name (evl_cons ev_name evl_nil) (T.ends _ _ _ 47)) tr_bool) (fun h' => ?_) (fun h' => ?_)
      · refine ex_step (ex1_aug ev_name (T.iadd _ _ (jos a (ps.take i)) b (by omega))) (ex_nil (fin _ ⟨?_, rfl, trivial⟩))
        have : jo (jos a (ps.take i)) b = jos a (ps.take i) ++ b := by unfold jo; rw [if_neg (by simpa using h), if_pos h']
        rw [this]; rfl
      · refine ex_step (ex1_aug (ev_bin ev_name ev_name (T.add _ _ [47] b (by simp; omega))) (T.iadd _ _ (jos a (ps.take i)) ([47] ++ b) (by simp; omega))) (ex_nil (fin _ ⟨?_, rfl, trivial⟩))
        have : jo (jos a (ps.take i)) b = jos a (ps.take i) ++ ([47] ++ b) := by unfold jo; rw [if_neg (by simpa using h), if_neg (by rw [h']; decide)]
        rw [this]; rfl
  · refine ex_nil ?_
    show Ex g _ _ _ _ _ _
    rw [List.take_of_length_le (by simp)]
    exact ex_ret ev_name ret_end

theorem c_normpath (p : List UInt8) (hz : p.length ≤ 1000000) : Fn g 6 "normpath" [.tx k p] σ (.tx k (np p)) σ := by
  have hs := srt_len p
  have hsp := spl_length 47 (srt p).2
  have htt := spl_tot 47 (srt p).2
  refine fn_drop (j := if p.isEmpty then [] else [.list ((npC p).map (.tx k))]) ?_ (fun m => .tx _ _)
  refine fn_at ["path"] (H.defs 24 _ _ _ _ _ _ _ _ _ _ rfl (by decide)) (fun _ _ _ vs h => by obtain ⟨_, rfl⟩ := vlen1 h; rfl) ?_
  refine ex_step ex1_doc ?_
  refine ex_step (ex1_assign (ev_call 2 (evl_cons ev_name evl_nil) (c_fspath H k p σ))) ?_
  refine ex_ifj (σ' := σ) (ρ' := [("dotdot", .tx k [46, 46]), ("dot", .tx k [46]), ("sep", .tx k [47]), ("path", .tx k p)]) (evb_val rfl (ev_blt (evl_cons ev_name (evl_cons ev_type evl_nil)) op_isbytes) tr_bool) (fun h => ?_) (fun h => ?_) ?_
  · cases k with
    | s => cases h
    | b => exact ex_step (ex1_assign ev_bytes) (ex_step (ex1_assign ev_bytes) (ex_step (ex1_assign ev_bytes) (ex_nil ⟨_, rfl, sub_of ⟨rfl, rfl, rfl, rfl, trivial⟩⟩)))
  · cases k with
    | s => exact ex_step (ex1_assign (ev_str (l := [47]) (by decide +kernel))) (ex_step (ex1_assign (ev_str (l := [46]) (by decide +kernel))) (ex_step (ex1_assign (ev_str (l := [46, 46]) (by decide +kernel))) (ex_nil ⟨_, rfl, sub_of ⟨rfl, rfl, rfl, rfl, trivial⟩⟩)))
    | b => cases h
  refine ex_if (evb_not (evb_val rfl ev_name (tr_tx (by omega)))) (fun h => ?_) (fun h => ?_)
  · have hp : p.isEmpty = true := by simpa using h
    refine ex_ret ev_name ?_
    rw [if_pos hp, List.append_nil]
    have : np p = [46] := by unfold np; rw [if_pos hp]
    rw [this]; exact ret_end
  · have hp : p.isEmpty = false := by simpa using h
    rw [hp]
    refine ex_step (ex1_untup (ev_call 4 (evl_cons ev_name evl_nil) (c_splitroot H T p hz)) (asg_tup (asgl_cons asg_name (asgl_cons asg_name (asgl_cons asg_name asgl_nil))))) ?_
    refine ex_step (ex1_assign (ev_meth ev_name (evl_cons ev_name evl_nil) (T.split _ _ (srt p).2 47 (by omega)))) ?_
    refine ex_step (ex1_assign (ev_newL evl_nil)) ?_
    let acc : Nat → List (List UInt8) := fun i => ((spl 47 (srt p).2).take i).foldl (npS (!(srt p).1.isEmpty)) []
    have hacc : ∀ i, tot (acc i) ≤ (srt p).2.length + 1 := fun i => by
      have h1 := npF_sum (!(srt p).1.isEmpty) ((spl 47 (srt p).2).take i) []
      have h2 := tot_take (spl 47 (srt p).2) i
      have : tot ([] : List (List UInt8)) = 0 := rfl
      show tot (((spl 47 (srt p).2).take i).foldl (npS (!(srt p).1.isEmpty)) []) ≤ _
      omega
    refine ex_for (fun i => [("new_comps", .cell σ.length), ("initial_slashes", .tx k (srt p).1), ("dotdot", .tx k [46, 46]), ("dot", .tx k [46]), ("sep", .tx k [47])]) (fun i => σ ++ [.list ((acc i).map (.tx k))]) (fun _ => True) (src_list ev_name (.inl rfl)) (sub_of ⟨rfl, rfl, rfl, rfl, rfl, trivial⟩) trivial (fun i y hy _ => ?_) (fun _ => ?_)
    · rw [List.getElem?_map] at hy
      obtain ⟨c, hc, rfl⟩ := Option.map_eq_some_iff.mp hy
      have hstep : acc (i + 1) = npS (!(srt p).1.isEmpty) (acc i) c := by
        have : (spl 47 (srt p).2).take (i + 1) = (spl 47 (srt p).2).take i ++ [c] := by rw [List.take_add_one, hc]; rfl
        show ((spl 47 (srt p).2).take (i + 1)).foldl _ [] = _
        rw [this, List.foldl_append]; rfl
      have hcl : c.length ≤ (srt p).2.length + 1 := by
        have := tot_get _ _ _ hc
        omega
      have hal := tot_length (acc i)
      have hai := hacc i
      refine ⟨_, asg_name, ?_⟩
      have fin : ∀ (l : List (List UInt8)) (r : Loc), npS (!(srt p).1.isEmpty) (acc i) c = l → Sub [("new_comps", .cell σ.length), ("initial_slashes", .tx k (srt p).1), ("dotdot", .tx k [46, 46]), ("dot", .tx k [46]), ("sep", .tx k [47])] r →
          ∀ {B Φ}, Lp [("new_comps", .cell σ.length), ("initial_slashes", .tx k (srt p).1), ("dotdot", .tx k [46, 46]), ("dot", .tx k [46]), ("sep", .tx k [47])] (σ ++ [.list ((acc (i + 1)).map (.tx k))]) True B Φ (.nx r (σ ++ [.list (l.map (.tx k))])) := by
        intro l r e hr B Φ
        rw [hstep, e]
        exact .nx trivial hr
      have hcell : ∀ l : List V, (σ ++ [MO.list l])[σ.length]? = some (MO.list l) := fun l => by simp
      have hset : ∀ l l' : List V, (σ ++ [MO.list l]).set σ.length (MO.list l') = σ ++ [MO.list l'] := fun l l' => by simp
      have hlv : LV (σ ++ [MO.list ((acc i).map (.tx k))]) (.cell σ.length) ((acc i).map (.tx k)) := .inr ⟨_, rfl, hcell _⟩
      have htr : Tr g 5 (σ ++ [MO.list ((acc i).map (.tx k))]) (.cell σ.length) (!((acc i).map (V.tx k)).isEmpty) := tr_list hlv (by simp; omega)
      have hemp : ((acc i).map (V.tx k)).isEmpty = (acc i).isEmpty := by simp
      refine ex_if (evb_or (evb_not (evb_val rfl ev_name (tr_tx (by omega)))) fun _ => evb_cmp ev_name ev_name op_eq_tx) (fun h => ?_) (fun h => ?_)
      · have e : acc (i + 1) = acc i := by rw [hstep]; unfold npS; rw [if_pos (by simpa using h)]
        refine ex_cont ?_
        rw [e]
        exact .ct trivial (sub_of ⟨rfl, rfl, rfl, rfl, rfl, trivial⟩)
      · have h0 : ¬ (c.isEmpty || c == [46]) = true := by simpa using h
        refine ex_if (evb_or3 (evb_cmp ev_name ev_name op_ne_tx) (fun _ => evb_and (evb_not (evb_val rfl ev_name (tr_tx (by omega)))) fun _ => evb_not (evb_val rfl ev_name htr)) (fun _ _ => evb_and (c := (acc i).getLast? == some [46, 46]) (evb_val rfl ev_name htr) fun hne => ?_)) (fun h' => ?_) (fun h' => ?_)
        · rw [hemp] at hne
          obtain ⟨l, hl⟩ : ∃ l, (acc i).getLast? = some l := by
            cases hq : (acc i).getLast? with
            | none => rw [List.getLast?_eq_none_iff] at hq; rw [hq] at hne; cases hne
            | some l => exact ⟨l, rfl⟩
          rw [hl]
          exact evb_eq (evb_cmp (ev_sub ev_name ev_neg1 (Seq.lst hlv) (op_item_last hlv (y := .tx k l) (by rw [List.getLast?_map, hl]; rfl) (by simp; omega))) ev_name op_eq_tx) (by simp)
        · have e : npS (!(srt p).1.isEmpty) (acc i) c = acc i ++ [c] := by
            unfold npS
            rw [if_neg h0, if_pos (by rw [hemp] at h'; simpa using h')]
          refine ex_step (ex1_expr (ev_meth ev_name (evl_cons ev_name evl_nil) (mop_append (hcell _) (by simp; omega)))) ?_
          rw [hset]
          have e2 : List.map (V.tx k) (acc i) ++ [V.tx k c] = List.map (V.tx k) (acc i ++ [c]) := by rw [List.map_append]; rfl
          rw [e2]
          exact ex_nil (fin _ _ e (sub_of ⟨rfl, rfl, rfl, rfl, rfl, trivial⟩))
        · have e : npS (!(srt p).1.isEmpty) (acc i) c = (acc i).dropLast := by
            unfold npS
            rw [if_neg h0, if_neg (by rw [hemp] at h'; rw [← Bool.not_eq_true] at h'; simpa using h')]
          refine ex_if (evb_val rfl ev_name htr) (fun hne => ?_) (fun hne => ?_)
          · rw [hemp] at hne
            have hn0 : acc i ≠ [] := by intro q; rw [q] at hne; cases hne
            have hd : acc i = (acc i).dropLast ++ [(acc i).getLast hn0] := (List.dropLast_concat_getLast hn0).symm
            have hc2 : (σ ++ [MO.list ((acc i).map (V.tx k))])[σ.length]? = some (MO.list ((acc i).dropLast.map (V.tx k) ++ [.tx k ((acc i).getLast hn0)])) := by
              rw [hcell]
              congr 2
              conv => lhs; rw [hd]
              rw [List.map_append]; rfl
            refine ex_step (ex1_expr (ev_meth ev_name evl_nil (mop_pop hc2 (by simp; omega)))) ?_
            rw [hset]
            exact ex_nil (fin _ _ e (sub_of ⟨rfl, rfl, rfl, rfl, rfl, trivial⟩))
          · rw [hemp] at hne
            have hn0 : acc i = [] := by
              cases hq : acc i with
              | nil => rfl
              | cons a r => rw [hq] at hne; cases hne
            have e' : npS (!(srt p).1.isEmpty) (acc i) c = acc i := by rw [e, hn0]; rfl
            exact ex_nil (fin _ _ e' (sub_of ⟨rfl, rfl, rfl, rfl, rfl, trivial⟩))
    · have hN : acc (((spl 47 (srt p).2).map (V.tx k)).length) = npC p := by
        show ((spl 47 (srt p).2).take _).foldl _ [] = _
        rw [List.take_of_length_le (by simp)]; rfl
      rw [hN]
      have hai : tot (npC p) ≤ (srt p).2.length + 1 := by rw [← hN]; exact hacc _
      have hjl := jn_len (npC p)
      have hlv : LV (σ ++ [MO.list ((npC p).map (V.tx k))]) (.cell σ.length) ((npC p).map (.tx k)) := .inr ⟨_, rfl, by simp⟩
      refine ex_step (ex1_assign ev_name) ?_
      refine ex_step (ex1_assign (ev_bin ev_name (ev_meth ev_name (evl_cons ev_name evl_nil) (T.join _ _ [47] (npC p) _ hlv (by show tot (npC p) ≤ _; omega))) (T.add _ _ (srt p).1 (jn [47] (npC p)) (by omega)))) ?_
      refine ex_ret (ev_or ev_name (tr_tx (a := (srt p).1 ++ jn [47] (npC p)) (by simp; omega)) (fun _ => ev_name)) ?_
      have : (if (!((srt p).1 ++ jn [47] (npC p)).isEmpty) = true then V.tx k ((srt p).1 ++ jn [47] (npC p)) else .tx k [46]) = .tx k (np p) := by
        have hnp : np p = if ((srt p).1 ++ jn [47] (npC p)).isEmpty then [46] else (srt p).1 ++ jn [47] (npC p) := by
          unfold np
          rw [if_neg (by rw [hp]; decide)]
        rw [hnp]
        cases ((srt p).1 ++ jn [47] (npC p)).isEmpty <;> rfl
      rw [this]; exact ret_end
end
end Mine
end
section
open PySem PySem.W PyProof.Rows PySem.Calls PySem.SeqAt
set_option Elab.async false
set_option linter.unusedVariables false
set_option maxRecDepth 100000
namespace Mine
abbrev Oct := List UInt8
/-- what the law holds -/
structure LS where
  texts : List Oct
  front : Oct
  pieces : List Oct
  root : Oct
  ups : Nat
  way : List (Oct × Oct)
  deep : Nat
  ahead : Oct
  spelled : List (Oct × Oct)
noncomputable def txL (l : List Oct) : V := .list (l.map (.tx .s))
noncomputable def prV (p : Oct × Oct) : V := .tup [.tx .s p.1, .tx .s p.2]
noncomputable def prL (l : List (Oct × Oct)) : V := .list (l.map prV)
noncomputable def kTexts : Oct := [116, 101, 120, 116, 115]
noncomputable def kFront : Oct := [102, 114, 111, 110, 116]
noncomputable def kPieces : Oct := [112, 105, 101, 99, 101, 115]
noncomputable def kRoot : Oct := [114, 111, 111, 116]
noncomputable def kUps : Oct := [117, 112, 115]
noncomputable def kWay : Oct := [119, 97, 121]
noncomputable def kDeep : Oct := [100, 101, 101, 112]
noncomputable def kAhead : Oct := [97, 104, 101, 97, 100]
noncomputable def kSpelled : Oct := [115, 112, 101, 108, 108, 101, 100]
noncomputable def heldV (s : LS) : List (Str × V) := [(S8 kTexts, txL s.texts), (S8 kFront, .tx .s s.front), (S8 kPieces, txL s.pieces), (S8 kRoot, .tx .s s.root), (S8 kUps, .int s.ups), (S8 kWay, prL s.way), (S8 kDeep, .int s.deep), (S8 kAhead, .tx .s s.ahead), (S8 kSpelled, prL s.spelled)]
theorem get_texts (s : LS) : (heldV s).lookup (S8 kTexts) = some (txL s.texts) := by rfl
theorem get_front (s : LS) : (heldV s).lookup (S8 kFront) = some (.tx .s s.front) := by rfl
theorem get_pieces (s : LS) : (heldV s).lookup (S8 kPieces) = some (txL s.pieces) := by rfl
theorem get_root (s : LS) : (heldV s).lookup (S8 kRoot) = some (.tx .s s.root) := by rfl
theorem get_ups (s : LS) : (heldV s).lookup (S8 kUps) = some (.int s.ups) := by rfl
theorem get_way (s : LS) : (heldV s).lookup (S8 kWay) = some (prL s.way) := by rfl
theorem get_deep (s : LS) : (heldV s).lookup (S8 kDeep) = some (.int s.deep) := by rfl
theorem get_ahead (s : LS) : (heldV s).lookup (S8 kAhead) = some (.tx .s s.ahead) := by rfl
theorem get_spelled (s : LS) : (heldV s).lookup (S8 kSpelled) = some (prL s.spelled) := by rfl
theorem put_texts (s : LS) (x : List Oct) : store (heldV s) (S8 kTexts) (txL x) = heldV { s with texts := x } := by rfl
noncomputable def LS0 : LS := ⟨[], [], [], [], 0, [], 0, [], []⟩

section
variable {g : Glo} (H : Has g pw) {σ : List MO}
include H
theorem c_begin : Fn g 2 "_law_begin" [] σ (.cell σ.length) (σ ++ [.dict (heldV LS0)]) := by
  refine fn_at [] (H.defs 27 _ _ _ _ _ _ _ _ _ _ rfl (by decide)) (fun _ _ _ vs h => by obtain rfl := List.length_eq_zero_iff.mp h; rfl) ?_
  have hi : ∀ l : List (Str × V), (σ ++ [MO.dict l])[σ.length]? = some (MO.dict l) := fun l => by simp
  have hset : ∀ l l' : List (Str × V), (σ ++ [MO.dict l]).set σ.length (MO.dict l') = σ ++ [MO.dict l'] := fun l l' => by simp
  show Ex g _ 1 (_ :: _) [] σ _
  refine ex_step (ex1_assign (ev_dict (evps_cons (ev_str (l := kTexts) (by decide +kernel)) (ev_list evl_nil) (evps_cons (ev_str (l := kFront) (by decide +kernel)) (ev_str (l := []) (by decide +kernel)) (evps_cons (ev_str (l := kPieces) (by decide +kernel)) (ev_list evl_nil) (evps_cons (ev_str (l := kRoot) (by decide +kernel)) (ev_str (l := []) (by decide +kernel)) evps_nil)))) rfl rfl (by simp) (by decide) (by decide +kernel))) ?_
  refine ex_step (ex1_store (k := kUps) ev_int ev_name (ev_str (by decide +kernel)) (hi _) (by decide)) ?_
  rw [hset]
  refine ex_step (ex1_store (k := kWay) (ev_list evl_nil) ev_name (ev_str (by decide +kernel)) (hi _) (by decide +kernel)) ?_
  rw [hset]
  refine ex_step (ex1_store (k := kDeep) ev_int ev_name (ev_str (by decide +kernel)) (hi _) (by decide +kernel)) ?_
  rw [hset]
  refine ex_step (ex1_store (k := kAhead) (ev_str (l := []) (by decide +kernel)) ev_name (ev_str (by decide +kernel)) (hi _) (by decide +kernel)) ?_
  rw [hset]
  refine ex_step (ex1_store (k := kSpelled) (ev_list evl_nil) ev_name (ev_str (by decide +kernel)) (hi _) (by decide +kernel)) ?_
  rw [hset]
  exact ex_ret ev_name ret_end
end
end Mine
end
section
open PySem PySem.W PyProof.Rows PySem.Calls PySem.SeqAt
set_option Elab.async false
set_option linter.unusedVariables false
set_option maxRecDepth 100000
namespace Mine
noncomputable def emb (as : List Oct) : List (List Nat) := as.map fun a => a.map UInt8.toNat
theorem ltL_eq : ∀ (as bs : List Oct), ltL as bs = decide (emb as < emb bs)
  | [], [] => by decide
  | [], b :: bs => by
    have : emb [] < emb (b :: bs) := List.nil_lt_cons _ _
    rw [decide_eq_true this]; rfl
  | a :: as, [] => by
    have : ¬ emb (a :: as) < emb [] := List.not_lt_nil _
    rw [decide_eq_false this]; rfl
  | a :: as, b :: bs => by
    have ih := ltL_eq as bs
    have e : (emb (a :: as) < emb (b :: bs)) ↔ (a.map UInt8.toNat < b.map UInt8.toNat ∨ a.map UInt8.toNat = b.map UInt8.toNat ∧ emb as < emb bs) := List.cons_lt_cons_iff
    unfold ltL
    by_cases h : a = b
    · subst h
      rw [if_pos (beq_self_eq_true a), ih, Bool.eq_iff_iff, decide_eq_true_iff, decide_eq_true_iff, e]
      constructor
      · exact fun x => .inr ⟨rfl, x⟩
      · rintro (x | ⟨_, x⟩)
        · exact absurd x (List.lt_irrefl _)
        · exact x
    · have hn : ¬ a.map UInt8.toNat = b.map UInt8.toNat := fun x => h (map_toNat_inj x)
      rw [if_neg (by simpa using h)]
      unfold ltS
      rw [Bool.eq_iff_iff, decide_eq_true_iff, decide_eq_true_iff, e]
      exact ⟨.inl, fun x => x.elim id fun x => absurd x.1 hn⟩
theorem ltL_false (as bs : List Oct) : ltL as bs = false ↔ emb bs ≤ emb as := by
  rw [ltL_eq, decide_eq_false_iff_not]; exact List.not_lt
theorem le_maxF : ∀ (xss : List (List Oct)) (x : List Oct), emb x ≤ emb (xss.foldl maxS x)
  | [], x => Std.le_refl _
  | y :: xss, x => by
    rw [List.foldl_cons]
    refine Std.le_trans ?_ (le_maxF xss (maxS x y))
    unfold maxS
    split
    · rename_i h
      rw [ltL_eq, decide_eq_true_iff] at h
      exact Std.le_of_lt h
    · exact Std.le_refl _
theorem minF_le : ∀ (xss : List (List Oct)) (x : List Oct), emb (xss.foldl minS x) ≤ emb x
  | [], x => Std.le_refl _
  | y :: xss, x => by
    rw [List.foldl_cons]
    refine Std.le_trans (minF_le xss (minS x y)) ?_
    unfold minS
    split
    · rename_i h
      rw [ltL_eq, decide_eq_true_iff] at h
      exact Std.le_of_lt h
    · exact Std.le_refl _
theorem min_le_max (xss : List (List Oct)) (x : List Oct) : ltL (xss.foldl maxS x) (xss.foldl minS x) = false :=
  (ltL_false _ _).mpr (Std.le_trans (minF_le xss x) (le_maxF xss x))
/-- what two lists begin with -/
noncomputable def cmn : List Oct → List Oct → List Oct
  | a :: as, b :: bs => if a = b then a :: cmn as bs else []
  | _, _ => []
theorem le_idx : ∀ (s1 s2 : List Oct), ltL s2 s1 = false → ∀ i, i < s1.length → (∀ j, j < i → s1[j]? = s2[j]?) → i < s2.length
  | [], _, _, i, hi, _ => absurd hi (Nat.not_lt_zero _)
  | a :: as, [], h, i, _, _ => nomatch h
  | a :: as, b :: bs, h, 0, _, _ => Nat.succ_pos _
  | a :: as, b :: bs, h, i + 1, hi, hj => by
    have h0 := hj 0 (Nat.succ_pos _)
    have e : a = b := by simpa using h0
    subst e
    unfold ltL at h
    rw [if_pos (beq_self_eq_true a)] at h
    exact Nat.succ_lt_succ (le_idx as bs h i (Nat.lt_of_succ_lt_succ hi) fun j hj' => by simpa using hj (j + 1) (Nat.succ_lt_succ hj'))
theorem cmn_take : ∀ (s1 s2 : List Oct) (i : Nat) (a b : Oct), (∀ j, j < i → s1[j]? = s2[j]?) → s1[i]? = some a → s2[i]? = some b → a ≠ b → cmn s1 s2 = s1.take i
  | [], _, i, a, b, _, h1, _, _ => by simp at h1
  | x :: as, [], i, a, b, _, _, h2, _ => by simp at h2
  | x :: as, y :: bs, 0, a, b, _, h1, h2, hne => by
    cases h1; cases h2
    unfold cmn; rw [if_neg hne]; rfl
  | x :: as, y :: bs, i + 1, a, b, hj, h1, h2, hne => by
    have e : x = y := by simpa using hj 0 (Nat.succ_pos _)
    unfold cmn
    rw [if_pos e, cmn_take as bs i a b (fun j hj' => by simpa using hj (j + 1) (Nat.succ_lt_succ hj')) (by simpa using h1) (by simpa using h2) hne]
    rfl
theorem cmn_all : ∀ (s1 s2 : List Oct), (∀ j, j < s1.length → s1[j]? = s2[j]?) → cmn s1 s2 = s1
  | [], s2, _ => by cases s2 <;> rfl
  | x :: as, [], hj => by have := hj 0 (Nat.succ_pos _); simp at this
  | x :: as, y :: bs, hj => by
    have e : x = y := by simpa using hj 0 (Nat.succ_pos _)
    unfold cmn
    rw [if_pos e, cmn_all as bs fun j hj' => by simpa using hj (j + 1) (Nat.succ_lt_succ hj')]
/-- a path's pieces that count -/
noncomputable def rowOf (p : Oct) : List Oct := (spl 47 p).filter fun c => !c.isEmpty && c != [46]
noncomputable def cpRows (p : Oct) (ps : List Oct) : List Oct := cmn ((ps.map rowOf).foldl minS (rowOf p)) ((ps.map rowOf).foldl maxS (rowOf p))
noncomputable def rooted (p : Oct) : Bool := p.head? == some 47
noncomputable def cpOf (b : Bool) (p : Oct) (ps : List Oct) : Oct := (if b then [47] else []) ++ jn [47] (cpRows p ps)
end Mine
end
section
open PySem PySem.W PyProof.Rows PySem.Calls PySem.SeqAt
set_option Elab.async false
set_option linter.unusedVariables false
set_option maxRecDepth 100000
namespace Mine
theorem tot_filter (f : Oct → Bool) : ∀ ps : List Oct, tot (ps.filter f) ≤ tot ps
  | [] => Nat.le_refl _
  | p :: ps => by
    have := tot_filter f ps
    rw [List.filter_cons, tot_cons]
    split
    · rw [tot_cons]; omega
    · omega
theorem rowOf_tot (p : Oct) : tot (rowOf p) ≤ p.length + 1 := by
  unfold rowOf
  exact Nat.le_trans (tot_filter _ _) (Nat.le_of_eq (spl_tot 47 p))
theorem tot_mem {q : Oct} : ∀ {ps : List Oct}, q ∈ ps → q.length + 1 ≤ tot ps
  | p :: ps, h => by
    rw [tot_cons]
    rcases List.mem_cons.mp h with rfl | h
    · omega
    · have := tot_mem h; omega
theorem minF_mem : ∀ (xss : List (List Oct)) (x : List Oct), xss.foldl minS x = x ∨ xss.foldl minS x ∈ xss
  | [], x => .inl rfl
  | y :: xss, x => by
    rw [List.foldl_cons]
    rcases minF_mem xss (minS x y) with e | e
    · rw [e]; unfold minS; split
      · exact .inr List.mem_cons_self
      · exact .inl rfl
    · exact .inr (List.mem_cons_of_mem _ e)
theorem maxF_mem : ∀ (xss : List (List Oct)) (x : List Oct), xss.foldl maxS x = x ∨ xss.foldl maxS x ∈ xss
  | [], x => .inl rfl
  | y :: xss, x => by
    rw [List.foldl_cons]
    rcases maxF_mem xss (maxS x y) with e | e
    · rw [e]; unfold maxS; split
      · exact .inr List.mem_cons_self
      · exact .inl rfl
    · exact .inr (List.mem_cons_of_mem _ e)
theorem cmn_tot : ∀ (a b : List Oct), tot (cmn a b) ≤ tot a
  | [], b => by cases b <;> exact Nat.le_refl _
  | x :: as, [] => Nat.zero_le _
  | x :: as, y :: bs => by
    have := cmn_tot as bs
    unfold cmn
    split
    · rw [tot_cons, tot_cons]; omega
    · exact Nat.zero_le _
theorem rows_tot {p : Oct} {ps : List Oct} (hz : tot (p :: ps) ≤ 1000000) : tot ((ps.map rowOf).foldl minS (rowOf p)) ≤ 1000000 ∧ tot ((ps.map rowOf).foldl maxS (rowOf p)) ≤ 1000000 := by
  have h : ∀ q ∈ p :: ps, tot (rowOf q) ≤ 1000000 := fun q hq => Nat.le_trans (rowOf_tot q) (Nat.le_trans (tot_mem hq) hz)
  constructor
  · rcases minF_mem (ps.map rowOf) (rowOf p) with e | e
    · rw [e]; exact h p List.mem_cons_self
    · obtain ⟨q, hq, e'⟩ := List.mem_map.mp e
      rw [← e']; exact h q (List.mem_cons_of_mem _ hq)
  · rcases maxF_mem (ps.map rowOf) (rowOf p) with e | e
    · rw [e]; exact h p List.mem_cons_self
    · obtain ⟨q, hq, e'⟩ := List.mem_map.mp e
      rw [← e']; exact h q (List.mem_cons_of_mem _ hq)
section
variable {g : Glo} {ρ : Loc} {σ : List MO} {sc : Scope} {n : Nat} {Φ : Out → Prop} {rest : List Stmt}
theorem Lp.mono {ρ' : Loc} {σ' : List MO} {ok : Prop} {B B' : Loc → List MO → Prop} {o : Out} (h : Lp ρ' σ' ok B Φ o) (hB : ∀ r s, B r s → B' r s) : Lp ρ' σ' ok B' Φ o := by
  cases h with
  | nx a b => exact .nx a b
  | ct a b => exact .ct a b
  | bk a => exact .bk (hB _ _ a)
  | rt a => exact .rt a
/-- a loop all of whose ends meet -/
theorem ex_forj {tgt iter : Expr} {body : List Stmt} {pos : Pos} {xs : List V} (J : Nat → Loc) (S : Nat → List MO) (ok : Nat → Prop) (ρe : Loc) (σe : List MO) (hsrc : Src g sc n iter ρ σ xs (S 0) tgt) (h0 : Sub (J 0) ρ) (ok0 : ok 0)
    (hturn : ∀ (i : Nat) y, xs[i]? = some y → ok i → ∃ ρ', Asg g sc n tgt y (J i) ρ' ∧ Ex g sc n body ρ' (S i) (Lp (J (i + 1)) (S (i + 1)) (ok (i + 1)) (fun r s => s = σe ∧ Sub ρe r) Φ))
    (hend : ok xs.length → S xs.length = σe ∧ Sub ρe (J xs.length)) (h : Ex g sc n rest ρe σe Φ) (hs : ∀ env x, foldedSetIterable iter env x = pure x := by intro _ _; rfl) :
    Ex g sc n (.For tgt iter body [] pos :: rest) ρ σ Φ :=
  ex_for J S ok hsrc h0 ok0 (fun i y hy hok => let ⟨ρ', a, b⟩ := hturn i y hy hok; ⟨ρ', a, b.mono fun o ho => ho.mono fun r s ⟨e, hr⟩ => e ▸ ex_sub h hr⟩) (fun hok => by obtain ⟨e, hr⟩ := hend hok; rw [e]; exact ex_sub h hr) hs
end
theorem map_getD {α β : Type} (f : α → β) (d : α) : ∀ (l : List α), (List.range l.length).map (fun i => f (l.getD i d)) = l.map f := fun l => by
  apply List.ext_getElem
  · simp
  · intro i h1 h2
    simp at h1 h2
    simp [h2]
theorem filter_getD {α β : Type} (f : α → Bool) (v : α → β) (d : α) (l : List α) : ((List.range l.length).filter fun i => f (l.getD i d)).map (fun i => v (l.getD i d)) = (l.filter f).map v := by
  have h := map_getD (fun a => a) d l
  rw [List.map_id'] at h
  conv => rhs; rw [← h]
  rw [List.filter_map, List.map_map]
  rfl
theorem outs_map {α : Type} (v : α → V) (d : α) (l : List α) {N : Nat} (hN : N = l.length) : outs (fun _ => true) (fun i => v (l.getD i d)) N = l.map v := by
  subst hN; rw [outs_all]; exact map_getD v d l
theorem outs_filter {α : Type} (f : α → Bool) (v : α → V) (d : α) (l : List α) {N : Nat} (hN : N = l.length) : outs (fun i => f (l.getD i d)) (fun i => v (l.getD i d)) N = (l.filter f).map v := by
  subst hN; exact filter_getD f v d l
theorem capt_sub {scope sc : Scope} {ρ : Loc} {x : Str} {y : V} (hx : ((relab scope sc).names.lookup x == some .cell) = false := by decide +kernel) : Sub (capt scope sc ρ) ((x, y) :: capt scope sc ρ) := fun z w e => by
  by_cases h : z = x
  · subst h
    unfold capt at e
    rw [lookup_filter (q := fun p => (relab scope sc).names.lookup p == some .cell), if_neg (by rw [hx]; decide)] at e
    cases e
  · rw [List.lookup_cons]
    have hb : (z == x) = false := by simpa using h
    rw [hb]; exact e
section
variable {g : Glo} (H : Has g pw) {k : Kd} (T : TxOps g k) (C : TxCmp g k) {σ : List MO}
include H T C
theorem c_common (p : Oct) (ps : List Oct) (b : Bool) (hb : ∀ q ∈ p :: ps, rooted q = b) (hz : tot (p :: ps) ≤ 1000000) : Fn g 8 "commonpath" [.list ((p :: ps).map (.tx k))] σ (.tx k (cpOf b p ps)) σ := by
  have hl := tot_length (p :: ps)
  rw [List.length_cons] at hl
  refine fn_at ["paths"] (H.defs 25 _ _ _ _ _ _ _ _ _ _ rfl (by decide)) (fun _ _ _ vs h => by obtain ⟨_, rfl⟩ := vlen1 h; rfl) ?_
  refine ex_step ex1_doc ?_
  refine ex_step (ex1_assign (ev_tmap (m := 2) ev_name (fun x hx => by obtain ⟨q, _, rfl⟩ := List.mem_map.mp hx; exact c_fspath H k q σ) (by simp) (by simp; omega))) ?_
  refine ex_if (evb_not (evb_val rfl ev_name (tr_tup (by simp; omega)))) (fun h => by simp at h) (fun _ => ?_)
  refine ex_ifj (σ' := σ) (ρ' := [("curdir", .tx k [46]), ("sep", .tx k [47]), ("paths", .tup ((p :: ps).map (.tx k)))]) (evb_val rfl (ev_blt (evl_cons (ev_sub ev_name ev_int .tup (op_item_tup (y := .tx k p) (by decide) (by decide) rfl)) (evl_cons ev_type evl_nil)) op_isbytes) tr_bool) (fun h => ?_) (fun h => ?_) ?_
  · cases k with
    | s => cases h
    | b => exact ex_step (ex1_assign ev_bytes) (ex_step (ex1_assign ev_bytes) (ex_nil ⟨_, rfl, sub_of ⟨rfl, rfl, rfl, trivial⟩⟩))
  · cases k with
    | s => exact ex_step (ex1_assign (ev_str (l := [47]) (by decide +kernel))) (ex_step (ex1_assign (ev_str (l := [46]) (by decide +kernel))) (ex_nil ⟨_, rfl, sub_of ⟨rfl, rfl, rfl, trivial⟩⟩))
    | b => cases h
  refine ex_try ?_
  refine ex_step (ex1_lc (xs := (p :: ps).map (.tx k)) (y := .list ((p :: ps).map fun q => lsV k (spl 47 q))) (fun _ => true) (fun i => lsV k (spl 47 ((p :: ps).getD i []))) (src_tup ev_name rfl) (by simp; omega) (fun i y hy => ?_) ?_) ?_
  · rw [List.getElem?_map] at hy
    obtain ⟨q, hq, rfl⟩ := Option.map_eq_some_iff.mp hy
    have e : (p :: ps).getD i [] = q := by rw [List.getD_eq_getElem?_getD, hq]; rfl
    have hql := tot_mem (List.mem_of_getElem? hq)
    rw [e]
    exact ⟨_, asg_name, capt_sub, tst_nil, fun _ => ev_meth ev_name (evl_cons ev_name evl_nil) (T.split _ _ q 47 (by omega))⟩
  · rw [outs_map (fun q => lsV k (spl 47 q)) [] (p :: ps) (by simp)]
  refine ex_try ?_
  refine ex_step (ex1_set b (xs := (p :: ps).map (.tx k)) (src_tup ev_name rfl) (by simp) (by simp; omega) (fun i y hy => ?_)) (ex_nil ?_)
  · rw [List.getElem?_map] at hy
    obtain ⟨q, hq, rfl⟩ := Option.map_eq_some_iff.mp hy
    have e : (q.head? == some 47) = b := hb q (List.mem_of_getElem? hq)
    rw [← e]
    exact ⟨_, asg_name, capt_sub, ev_meth ev_name (evl_cons ev_name evl_nil) (T.starts _ _ q 47)⟩
  show Ex g _ _ _ _ _ _
  refine ex_step (ex1_lc (xs := (p :: ps).map fun q => lsV k (spl 47 q)) (y := lssV k (rowOf p :: ps.map rowOf)) (fun _ => true) (fun i => lsV k (rowOf ((p :: ps).getD i []))) (src_list ev_name (.inl rfl)) (by simp; omega) (fun i y hy => ?_) ?_) ?_
  · rw [List.getElem?_map] at hy
    obtain ⟨q, hq, rfl⟩ := Option.map_eq_some_iff.mp hy
    have e : (p :: ps).getD i [] = q := by rw [List.getD_eq_getElem?_getD, hq]; rfl
    have hql := tot_mem (List.mem_of_getElem? hq)
    have hsl := spl_length 47 q
    rw [e]
    refine ⟨_, asg_name, capt_sub, tst_nil, fun _ => ev_lc (xs := (spl 47 q).map (.tx k)) (fun j => !((spl 47 q).getD j []).isEmpty && (spl 47 q).getD j [] != [46]) (fun j => .tx k ((spl 47 q).getD j [])) (src_list ev_name (.inl rfl)) (by simp; omega) (fun j y hy => ?_) ?_⟩
    · rw [List.getElem?_map] at hy
      obtain ⟨c, hc, rfl⟩ := Option.map_eq_some_iff.mp hy
      have e : (spl 47 q).getD j [] = c := by rw [List.getD_eq_getElem?_getD, hc]; rfl
      have hcl := tot_mem (List.mem_of_getElem? hc)
      rw [spl_tot] at hcl
      rw [e]
      exact ⟨_, asg_name, capt_sub, tst_one (evb_and (evb_val rfl ev_name (tr_tx (by omega))) fun _ => evb_cmp ev_name ev_name op_ne_tx), fun _ => ev_name⟩
    · rw [outs_filter (fun c : Oct => !c.isEmpty && c != [46]) (V.tx k) [] (spl 47 q) (by simp)]; rfl
  · rw [outs_map (fun q => lsV k (rowOf q)) [] (p :: ps) (by simp)]
    show V.list _ = _
    simp
  refine ex_step (ex1_assign (ev_blt (evl_cons ev_name evl_nil) (op_min C))) ?_
  refine ex_step (ex1_assign (ev_blt (evl_cons ev_name evl_nil) (op_max C))) ?_
  refine ex_step (ex1_assign ev_name) ?_
  have hmm := min_le_max (ps.map rowOf) (rowOf p)
  have hrt := rows_tot hz
  have hcp : cpRows p ps = cmn ((ps.map rowOf).foldl minS (rowOf p)) ((ps.map rowOf).foldl maxS (rowOf p)) := rfl
  generalize (ps.map rowOf).foldl minS (rowOf p) = S1 at hmm hrt hcp ⊢
  generalize (ps.map rowOf).foldl maxS (rowOf p) = S2 at hmm hrt hcp ⊢
  have hl1 := tot_length S1
  have hl2 := tot_length S2
  refine ex_forj (xs := ((S1.map (.tx k)).zipIdx.map fun p => .tup [.int p.2, p.1])) (fun _ => [("s1", lsV k S1), ("s2", lsV k S2), ("common", lsV k S1), ("isabs", .bool b), ("sep", .tx k [47])]) (fun _ => σ) (fun i => ∀ j, j < i → S1[j]? = S2[j]?) [("common", lsV k (cpRows p ps)), ("isabs", .bool b), ("sep", .tx k [47])] σ
    (src_enum ev_name) (sub_of ⟨rfl, rfl, rfl, rfl, rfl, trivial⟩) (fun j hj => absurd hj (Nat.not_lt_zero _)) (fun i y hy hok => ?_) (fun hok => ⟨rfl, ?_⟩) ?_
  · rw [List.getElem?_map] at hy
    obtain ⟨⟨c', j⟩, hc, rfl⟩ := Option.map_eq_some_iff.mp hy
    rw [List.getElem?_zipIdx, List.getElem?_map] at hc
    obtain ⟨c'', hc1, hc2⟩ := Option.map_eq_some_iff.mp hc
    obtain ⟨c, hc3, rfl⟩ := Option.map_eq_some_iff.mp hc1
    cases hc2
    have hi : i < S1.length := (List.getElem?_eq_some_iff.mp hc3).1
    have hi2 := le_idx S1 S2 hmm i hi hok
    have hd : S2[i]? = some S2[i] := List.getElem?_eq_getElem hi2
    refine ⟨_, asg_tup (asgl_cons asg_name (asgl_cons asg_name asgl_nil)), ?_⟩
    have e0 : ((0 + i : Nat) : Int) = (i : Int) := by omega
    refine ex_if (evb_cmp ev_name (ev_sub ev_name ev_name (.lst (.inl rfl)) (op_item_list (y := .tx k S2[i]) (.inl rfl) (by omega) (by omega) (by simp [hd]))) op_ne_tx) (fun hne => ?_) (fun heq => ?_)
    · have hne' : c ≠ S2[i] := by simpa using hne
      refine ex_step (ex1_assign (ev_slcL ev_name evp_none (evp_some ev_name) (by simp; omega))) (ex_brk (.bk ⟨rfl, sub_of ⟨?_, rfl, rfl, trivial⟩⟩))
      rw [e0, psl_upto]
      have : cpRows p ps = S1.take i := hcp.trans (cmn_take S1 S2 i c S2[i] hok hc3 hd hne')
      rw [this, ← List.map_take]
      rfl
    · have heq' : c = S2[i] := by simpa using heq
      refine ex_nil (.nx (fun j hj => ?_) (sub_of ⟨rfl, rfl, rfl, rfl, rfl, trivial⟩))
      rcases Nat.lt_succ_iff_lt_or_eq.mp hj with hj | rfl
      · exact hok j hj
      · rw [hc3, hd, heq']
  · have : cpRows p ps = S1 := hcp.trans (cmn_all S1 S2 (by simpa using hok))
    rw [this]
    exact sub_of ⟨rfl, rfl, rfl, trivial⟩
  · have hct : tot (cpRows p ps) ≤ 1000000 := by rw [hcp]; exact Nat.le_trans (cmn_tot S1 S2) hrt.1
    have hjl := jn_len (cpRows p ps)
    refine ex_step (ex1_assign (x := .tx k (if b then [47] else [])) (ev_eq (ev_if (c := b) (evb_val rfl ev_name tr_bool) (fun _ => ev_name) (fun _ => ev_slc T.slc ev_name evp_none (evp_some ev_int) (by decide))) ?_)) ?_
    · cases b <;> rfl
    have hpl : (if b then [47] else [] : Oct).length ≤ 1 := by cases b <;> decide
    exact ex_ret (ev_bin ev_name (ev_meth ev_name (evl_cons ev_name evl_nil) (T.join _ _ [47] (cpRows p ps) _ (.inl rfl) (Nat.le_trans (show tot (cpRows p ps) ≤ 1000000 from hct) (by decide)))) (T.add _ _ (if b then [47] else []) (jn [47] (cpRows p ps)) (by omega))) ret_end
end
end Mine
end
section
open PySem PySem.W PyProof.Rows PySem.Calls PySem.SeqAt
set_option Elab.async false
set_option linter.unusedVariables false
set_option maxRecDepth 100000
namespace Mine
section
variable {g : Glo} (H : Has g pw) {k : Kd} (T : TxOps g k) {σ : List MO}
include H T
/-- some have a root, some have none -/
theorem c_commonX (p : Oct) (ps : List Oct) (hT : ∃ q ∈ p :: ps, rooted q = true) (hF : ∃ q ∈ p :: ps, rooted q = false) (hz : tot (p :: ps) ≤ 1000000) : FnX g 8 "commonpath" [.list ((p :: ps).map (.tx k))] σ "ValueError" := by
  have hl := tot_length (p :: ps)
  rw [List.length_cons] at hl
  refine fnX_at ["paths"] (H.defs 25 _ _ _ _ _ _ _ _ _ _ rfl (by decide)) (fun _ _ _ vs h => by obtain ⟨_, rfl⟩ := vlen1 h; rfl) ?_
  refine exX_step ex1_doc ?_
  refine exX_step (ex1_assign (ev_tmap (m := 2) ev_name (fun x hx => by obtain ⟨q, _, rfl⟩ := List.mem_map.mp hx; exact c_fspath H k q σ) (by simp) (by simp; omega))) ?_
  refine exX_skip (evb_eq (evb_not (evb_val rfl ev_name (tr_tup (by simp; omega)))) (by simp)) ?_
  refine exX_ifj (ρ' := [("curdir", .tx k [46]), ("sep", .tx k [47]), ("paths", .tup ((p :: ps).map (.tx k)))]) (evb_val rfl (ev_blt (evl_cons (ev_sub ev_name ev_int .tup (op_item_tup (y := .tx k p) (by decide) (by decide) rfl)) (evl_cons ev_type evl_nil)) op_isbytes) tr_bool) (fun h => ?_) (fun h => ?_) ?_
  · cases k with
    | s => cases h
    | b => exact ex_step (ex1_assign ev_bytes) (ex_step (ex1_assign ev_bytes) (ex_nil ⟨_, rfl, sub_of ⟨rfl, rfl, rfl, trivial⟩⟩))
  · cases k with
    | s => exact ex_step (ex1_assign (ev_str (l := [47]) (by decide +kernel))) (ex_step (ex1_assign (ev_str (l := [46]) (by decide +kernel))) (ex_nil ⟨_, rfl, sub_of ⟨rfl, rfl, rfl, trivial⟩⟩))
    | b => cases h
  refine exX_miss ?_
  refine exX_step (ex1_lc (xs := (p :: ps).map (.tx k)) (y := .list ((p :: ps).map fun q => lsV k (spl 47 q))) (fun _ => true) (fun i => lsV k (spl 47 ((p :: ps).getD i []))) (src_tup ev_name rfl) (by simp; omega) (fun i y hy => ?_) ?_) ?_
  · rw [List.getElem?_map] at hy
    obtain ⟨q, hq, rfl⟩ := Option.map_eq_some_iff.mp hy
    have e : (p :: ps).getD i [] = q := by rw [List.getD_eq_getElem?_getD, hq]; rfl
    have hql := tot_mem (List.mem_of_getElem? hq)
    rw [e]
    exact ⟨_, asg_name, capt_sub, tst_nil, fun _ => ev_meth ev_name (evl_cons ev_name evl_nil) (T.split _ _ q 47 (by omega))⟩
  · rw [outs_map (fun q => lsV k (spl 47 q)) [] (p :: ps) (by simp)]
  refine exX_reraise (exN_set (xs := (p :: ps).map (.tx k)) (fun i => rooted ((p :: ps).getD i [])) (src_tup ev_name rfl) (by simp; omega) (fun i y hy => ?_) ?_ ?_)
  · rw [List.getElem?_map] at hy
    obtain ⟨q, hq, rfl⟩ := Option.map_eq_some_iff.mp hy
    have e : (p :: ps).getD i [] = q := by rw [List.getD_eq_getElem?_getD, hq]; rfl
    rw [e]
    exact ⟨_, asg_name, capt_sub, ev_meth ev_name (evl_cons ev_name evl_nil) (T.starts _ _ q 47)⟩
  · obtain ⟨q, hq, e⟩ := hT
    obtain ⟨i, hi⟩ := List.mem_iff_getElem?.mp hq
    refine ⟨i, by rw [List.length_map]; exact (List.getElem?_eq_some_iff.mp hi).1, ?_⟩
    show rooted ((p :: ps).getD i []) = true
    rw [List.getD_eq_getElem?_getD, hi]; exact e
  · obtain ⟨q, hq, e⟩ := hF
    obtain ⟨i, hi⟩ := List.mem_iff_getElem?.mp hq
    refine ⟨i, by rw [List.length_map]; exact (List.getElem?_eq_some_iff.mp hi).1, ?_⟩
    show rooted ((p :: ps).getD i []) = false
    rw [List.getD_eq_getElem?_getD, hi]; exact e
end
end Mine
end
section
open PySem PySem.W PyProof.Rows PySem.Calls PySem.SeqAt
set_option Elab.async false
set_option linter.unusedVariables false
set_option maxRecDepth 100000
namespace Mine
noncomputable def lnSign (n : Int) : UInt8 := UInt8.ofNat (n / 8 % 256).toNat
noncomputable def lnLast (n : Int) : Oct := if [46, 47].contains (lnSign n) then [99] else [99, lnSign n]
noncomputable def lnAll (l : Oct) : List (Oct × Oct) := [([97], []), ([98], []), ([97], [46, 98]), ([46, 97], []), ([46, 46, 46], []), ([97, 46, 98], [46]), ([46, 46, 98], [46, 97]), (l, [])]
noncomputable def lnName (n : Int) : Oct × Oct := (lnAll (lnLast n)).getD (n % 8).toNat ([], [])
theorem lnName_at (n : Int) : ((lnAll (lnLast n)).map prV)[(n % 8).toNat]? = some (prV (lnName n)) := by
  have h1 : (n % 8).toNat < 8 := by omega
  rw [List.getElem?_map, List.getElem?_eq_getElem (by simpa [lnAll] using h1)]
  unfold lnName
  rw [List.getD_eq_getElem?_getD, List.getElem?_eq_getElem (by simpa [lnAll] using h1)]
  rfl
section
variable {g : Glo} (H : Has g pw) {σ : List MO}
include H
theorem c_lname (n : Int) : Fn g 2 "_law_name" [.int n] σ (prV (lnName n)) σ := by
  refine fn_at ["n"] (H.defs 28 _ _ _ _ _ _ _ _ _ _ rfl (by decide)) (fun _ _ _ vs h => by obtain ⟨_, rfl⟩ := vlen1 h; rfl) ?_
  refine ex_step (ex1_assign (ev_blt (evl_cons (ev_bin (ev_bin ev_name ev_int (op_div_int (by decide) (by decide))) ev_int (op_mod_int (by decide))) evl_nil) (op_chr (by omega) (by omega)))) ?_
  refine ex_step (ex1_assign (x := .tx .s (lnLast n)) (ev_eq (ev_if (c := [46, 47].contains (lnSign n)) (evb_cmp ev_name (ev_str (l := [46, 47]) (by decide +kernel)) op_in_one) (fun _ => ev_str (l := [99]) (by decide +kernel)) (fun _ => ev_bin (ev_str (l := [99]) (by decide +kernel)) ev_name (op_add_s (by simp)))) (by unfold lnLast lnSign; split <;> rfl))) ?_
  have str : ∀ (l : Oct) {x : Str} {kk : Nat} {p : Pos} {ρ : Loc} {sc : Scope}, x = S8 l → Ev g sc 1 (.Constant (.str x) kk p) ρ σ (.tx .s l) σ := fun l _ _ _ _ _ h => ev_str h
  refine ex_ret (ev_sub (x := .list ((lnAll (lnLast n)).map prV)) (ev_list ?_ (by simp [lnAll])) (ev_bin ev_name ev_int (op_mod_int (by decide))) (.lst (.inl rfl)) (op_item_list (.inl rfl) (by omega) (by omega) (lnName_at n))) ret_end
  refine evl_cons (ev_tuple (evl_cons (str [97] (by decide +kernel)) (evl_cons (str [] (by decide +kernel)) evl_nil))) ?_
  refine evl_cons (ev_tuple (evl_cons (str [98] (by decide +kernel)) (evl_cons (str [] (by decide +kernel)) evl_nil))) ?_
  refine evl_cons (ev_tuple (evl_cons (str [97] (by decide +kernel)) (evl_cons (str [46, 98] (by decide +kernel)) evl_nil))) ?_
  refine evl_cons (ev_tuple (evl_cons (str [46, 97] (by decide +kernel)) (evl_cons (str [] (by decide +kernel)) evl_nil))) ?_
  refine evl_cons (ev_tuple (evl_cons (str [46, 46, 46] (by decide +kernel)) (evl_cons (str [] (by decide +kernel)) evl_nil))) ?_
  refine evl_cons (ev_tuple (evl_cons (str [97, 46, 98] (by decide +kernel)) (evl_cons (str [46] (by decide +kernel)) evl_nil))) ?_
  refine evl_cons (ev_tuple (evl_cons (str [46, 46, 98] (by decide +kernel)) (evl_cons (str [46, 97] (by decide +kernel)) evl_nil))) ?_
  exact evl_cons (ev_tuple (evl_cons ev_name (evl_cons (str [] (by decide +kernel)) evl_nil))) evl_nil
end
end Mine
end
section
open PySem PySem.W PyProof.Rows PySem.Calls PySem.SeqAt
set_option Elab.async false
set_option linter.unusedVariables false
set_option maxRecDepth 100000
namespace Mine
/-- the cells, with what the law holds at i -/
noncomputable def at' (σ : List MO) (i : Nat) (s : LS) : List MO := σ.set i (.dict (heldV s))
theorem at_get {σ : List MO} {i : Nat} {s : LS} (hi : i < σ.length) : (at' σ i s)[i]? = some (.dict (heldV s)) := by unfold at'; simp [hi]
theorem at_set {σ : List MO} {i : Nat} {s s' : LS} : (at' σ i s).set i (.dict (heldV s')) = at' σ i s' := by unfold at'; rw [List.set_set]
section
variable {g : Glo} {sc : Scope} {n : Nat} {ρ : Loc} {σ : List MO} {i : Nat} {s s' : LS}
theorem rd {e : Expr} {x : Str} {k : Oct} {y : V} {kk : Nat} {p p' : Pos} (hi : i < σ.length) (hn : Ev g sc n e ρ (at' σ i s) (.cell i) (at' σ i s)) (hg : (heldV s).lookup (S8 k) = some y) (hx : x = S8 k) : Ev g sc n (.Subscript e (.Constant (.str x) kk p) p') ρ (at' σ i s) y (at' σ i s) :=
  ev_sub hn (ev_str hx) (.dict (.inr ⟨_, rfl, at_get hi⟩)) (op_item_dict (.inr ⟨_, rfl, at_get hi⟩) hg)
theorem wr {e v : Expr} {x : Str} {k : Oct} {y : V} {kk : Nat} {p p' p'' : Pos} (hi : i < σ.length) (hv : Ev g sc n v ρ (at' σ i s) y (at' σ i s)) (hn : Ev g sc n e ρ (at' σ i s) (.cell i) (at' σ i s)) (hp : store (heldV s) (S8 k) y = heldV s') (hx : x = S8 k)
    (hs : ∀ env, swapsWith v (some (.Subscript e (.Constant (.str x) kk p) p')) p''.line env = pure false := by intro _; rfl) : Ex1 g sc n (.Assign [.Subscript e (.Constant (.str x) kk p) p'] v p'') ρ (at' σ i s) ρ (at' σ i s') := by
  have h := ex1_store (pt := p') (p := p'') hv hn (ev_str (k := kk) (p := p) hx) (at_get hi) (show 9 ≤ 16777216 by decide) hs
  rw [hp, at_set] at h
  exact h
end
noncomputable def front0 (n : Int) : Oct := ([[], [], [], [], [], [47], [47, 47], [47, 47, 47]] : List Oct).getD (n % 8).toNat []
noncomputable def partOf (s : LS) : Oct := s.front ++ jn [47] s.pieces
noncomputable def nextS (s : LS) (n : Int) : LS :=
  let s' := { s with texts := s.texts ++ [partOf s], front := front0 n, pieces := [] }
  if front0 n = [] then s' else { s' with root := if front0 n = [47, 47] then [47, 47] else [47], ups := 0, way := [], deep := 0, ahead := front0 n, spelled := [] }
theorem front0_at (n : Int) : (([[], [], [], [], [], [47], [47, 47], [47, 47, 47]] : List Oct).map (V.tx .s))[(n % 8).toNat]? = some (.tx .s (front0 n)) := by
  have h1 : (n % 8).toNat < 8 := by omega
  rw [List.getElem?_map, List.getElem?_eq_getElem (by simpa using h1)]
  unfold front0
  rw [List.getD_eq_getElem?_getD, List.getElem?_eq_getElem (by simpa using h1)]
  rfl
section
variable {g : Glo} (H : Has g pw) {σ : List MO}
include H
theorem ev_part {sc : Scope} {n : Nat} {ρ : Loc} {i : Nat} {s : LS} {e e' : Expr} {a b c : Str} {k1 k2 k3 : Nat} {p1 p2 p3 p4 p5 p6 p7 p8 : Pos} (hi : i < σ.length) (hz : s.front.length + tot s.pieces ≤ 1000000) (h1 : Ev g sc n e ρ (at' σ i s) (.cell i) (at' σ i s)) (h2 : Ev g sc n e' ρ (at' σ i s) (.cell i) (at' σ i s))
    (ha : a = S8 kFront) (hb : b = S8 [47]) (hc : c = S8 kPieces) (hline : (p4.endLine == p7.line) = true := by rfl) :
    Ev g sc n (.BinOp (.Subscript e (.Constant (.str a) k1 p1) p2) .Add (.Call (.Attribute (.Constant (.str b) k2 p3) "join" p4) [.Subscript e' (.Constant (.str c) k3 p5) p6] [] p7) p8) ρ (at' σ i s) (.tx .s (partOf s)) (at' σ i s) := by
  have hj := jn_len s.pieces
  refine ev_bin (rd hi h1 (get_front s) ha) (ev_meth (ev_str hb) (evl_cons (rd hi h2 (get_pieces s) hc) evl_nil) (txops_s.join _ _ _ s.pieces _ (.inl rfl) (Nat.le_trans (show tot s.pieces ≤ 1000000 by omega) (by decide))) (hline := hline)) (op_add_s (by omega))
theorem c_next (s : LS) (n : Int) (i : Nat) (hi : i < σ.length) (hz : s.front.length + tot s.pieces ≤ 1000000) (hl : s.texts.length ≤ 1000000) : Fn g 5 "_law_next_part" [.cell i, .int n] (at' σ i s) .none (at' σ i (nextS s n)) := by
  refine fn_at ["held", "n"] (H.defs 29 _ _ _ _ _ _ _ _ _ _ rfl (by decide)) (fun _ _ _ vs h => by obtain ⟨_, _, rfl⟩ := vlen2 h; rfl) ?_
  have str : ∀ {n : Nat} (l : Oct) {x : Str} {kk : Nat} {p : Pos} {ρ : Loc} {σ : List MO} {sc : Scope}, x = S8 l → Ev g sc n (.Constant (.str x) kk p) ρ σ (.tx .s l) σ := fun l _ _ _ _ _ _ h => ev_str h
  refine ex_step (wr (k := kTexts) (y := txL (s.texts ++ [partOf s])) (s' := { s with texts := s.texts ++ [partOf s] }) hi (ev_eq (ev_bin (rd hi ev_name (get_texts s) (by decide +kernel)) (ev_list (evl_cons (ev_part H hi hz ev_name ev_name (by decide +kernel) (by decide +kernel) (by decide +kernel)) evl_nil)) (op_add_list (.inl rfl) (.inl rfl) (by simp; omega))) (by unfold txL; simp)) ev_name (put_texts s _) (by decide +kernel)) ?_
  refine ex_step (wr (s' := { s with texts := s.texts ++ [partOf s], front := front0 n }) hi (ev_sub (ev_list (evl_cons (str [] (by decide +kernel)) (evl_cons (str [] (by decide +kernel)) (evl_cons (str [] (by decide +kernel)) (evl_cons (str [] (by decide +kernel)) (evl_cons (str [] (by decide +kernel)) (evl_cons (str [47] (by decide +kernel)) (evl_cons (str [47, 47] (by decide +kernel)) (evl_cons (str [47, 47, 47] (by decide +kernel)) evl_nil))))))))) (ev_bin ev_name ev_int (op_mod_int (by decide))) (.lst (.inl rfl)) (op_item_list (.inl rfl) (by omega) (by omega) (front0_at n))) ev_name (k := kFront) (hp := by rfl) (hx := by decide +kernel)) ?_
  refine ex_step (wr (s' := { s with texts := s.texts ++ [partOf s], front := front0 n, pieces := [] }) hi (ev_list evl_nil) ev_name (k := kPieces) (hp := by rfl) (hx := by decide +kernel)) ?_
  refine ex_if (evb_cmp (rd hi ev_name (get_front _) (by decide +kernel)) (str [] (by decide +kernel)) op_ne_tx) (fun h => ?_) (fun h => ?_)
  · have hf : front0 n ≠ [] := by simpa using h
    refine ex_step (wr (y := .tx .s (if front0 n = [47, 47] then [47, 47] else [47])) (s' := { s with texts := s.texts ++ [partOf s], front := front0 n, pieces := [], root := if front0 n = [47, 47] then [47, 47] else [47] }) hi (ev_eq (ev_if (evb_cmp (rd hi ev_name (get_front _) (by decide +kernel)) (str [47, 47] (by decide +kernel)) op_eq_tx) (fun _ => str [47, 47] (by decide +kernel)) (fun _ => str [47] (by decide +kernel))) (by simp only [beq_iff_eq]; split <;> rfl)) ev_name (k := kRoot) (hp := by rfl) (hx := by decide +kernel)) ?_
    refine ex_step (wr (s' := { s with texts := s.texts ++ [partOf s], front := front0 n, pieces := [], root := if front0 n = [47, 47] then [47, 47] else [47], ups := 0 }) hi ev_int ev_name (k := kUps) (hp := by rfl) (hx := by decide +kernel)) ?_
    refine ex_step (wr (s' := { s with texts := s.texts ++ [partOf s], front := front0 n, pieces := [], root := if front0 n = [47, 47] then [47, 47] else [47], ups := 0, way := [] }) hi (ev_list evl_nil) ev_name (k := kWay) (hp := by rfl) (hx := by decide +kernel)) ?_
    refine ex_step (wr (s' := { s with texts := s.texts ++ [partOf s], front := front0 n, pieces := [], root := if front0 n = [47, 47] then [47, 47] else [47], ups := 0, way := [], deep := 0 }) hi ev_int ev_name (k := kDeep) (hp := by rfl) (hx := by decide +kernel)) ?_
    refine ex_step (wr (s' := { s with texts := s.texts ++ [partOf s], front := front0 n, pieces := [], root := if front0 n = [47, 47] then [47, 47] else [47], ups := 0, way := [], deep := 0, ahead := front0 n }) hi (rd hi ev_name (get_front _) (by decide +kernel)) ev_name (k := kAhead) (hp := by rfl) (hx := by decide +kernel)) ?_
    refine ex_step (wr (s' := nextS s n) hi (ev_list evl_nil) ev_name (k := kSpelled) (hp := by unfold nextS; rw [if_neg hf]; rfl) (hx := by decide +kernel)) (ex_nil nx_end)
  · have hf : front0 n = [] := by simpa using h
    refine ex_nil ?_
    have : nextS s n = { s with texts := s.texts ++ [partOf s], front := front0 n, pieces := [] } := by unfold nextS; rw [if_pos hf]
    rw [this]; exact nx_end
end
end Mine
end
section
open PySem PySem.W PyProof.Rows PySem.Calls PySem.SeqAt
set_option Elab.async false
set_option linter.unusedVariables false
set_option linter.unusedSectionVars false
set_option maxRecDepth 100000
namespace Mine
theorem cm_prV (a b : Oct × Oct) : Cm 1 (prV a) (prV b) (decide (a = b)) := by
  have h := cm_pair (cm_tx .s a.1 b.1) (cm_tx .s a.2 b.2)
  have e : (a.1 == b.1 && a.2 == b.2) = decide (a = b) := by
    rw [Bool.eq_iff_iff]; simp [Prod.ext_iff]
  rw [e] at h; exact h
theorem cm_prL (a b : List (Oct × Oct)) : Cm 2 (prL a) (prL b) (decide (a = b)) := cm_list prV cm_prV a b
theorem cm_txL (a b : List Oct) : Cm 1 (txL a) (txL b) (decide (a = b)) := cm_list (V.tx .s) (fun a b => by have := cm_tx .s a b; rwa [show (a == b) = decide (a = b) by rw [Bool.eq_iff_iff]; simp] at this) a b
noncomputable def pieceB (s : LS) (w n : Int) : (Oct × Oct) × LS :=
  if w = 1 then (if n % 2 = 1 ∧ s.pieces ≠ [] then ([], []) else ([46], []), s)
  else if w < 4 ∨ (5 < w ∧ 0 < s.deep) then (lnName n, { s with deep := s.deep + 1 })
  else if 5 < w then (lnName n, { s with way := s.way ++ [lnName n] })
  else if 0 < s.deep then (([46, 46], []), { s with deep := s.deep - 1 })
  else if s.way ≠ [] then (([46], []), s)
  else if s.root = [] then (([46, 46], []), { s with ups := s.ups + 1 })
  else (([46, 46], []), s)
noncomputable def pieceS (s : LS) (w n : Int) : LS :=
  let b := pieceB s w n
  { b.2 with pieces := b.2.pieces ++ [b.1.1 ++ b.1.2], spelled := b.2.spelled ++ (if b.1 = ([], []) then [] else [b.1]) }
theorem lnName_len (n : Int) : (lnName n).1.length ≤ 3 ∧ (lnName n).2.length ≤ 2 := by
  have h1 : (n % 8).toNat < 8 := by omega
  have hl : (lnLast n).length ≤ 2 := by unfold lnLast; split <;> simp
  unfold lnName lnAll
  match (n % 8).toNat, h1 with
  | 0, _ | 1, _ | 2, _ | 3, _ | 4, _ | 5, _ | 6, _ => simp
  | 7, _ => simp; omega
theorem pieceB_len (s : LS) (w n : Int) : (pieceB s w n).1.1.length ≤ 3 ∧ (pieceB s w n).1.2.length ≤ 2 := by
  have := lnName_len n
  unfold pieceB
  repeat' split
  all_goals simp
  all_goals omega
section
variable {g : Glo} (H : Has g pw) {σ : List MO}
include H
theorem c_piece (s : LS) (w n : Int) (i : Nat) (hi : i < σ.length) (h1 : s.pieces.length ≤ 1000000) (h2 : s.spelled.length ≤ 1000000) (h3 : s.way.length ≤ 1000000) : Fn g 5 "_law_piece" [.cell i, .int w, .int n] (at' σ i s) .none (at' σ i (pieceS s w n)) := by
  have str : ∀ {n : Nat} (l : Oct) {x : Str} {kk : Nat} {p : Pos} {ρ : Loc} {σ : List MO} {sc : Scope}, x = S8 l → Ev g sc n (.Constant (.str x) kk p) ρ σ (.tx .s l) σ := fun l _ _ _ _ _ _ h => ev_str h
  refine fn_at ["held", "which", "n"] (H.defs 30 _ _ _ _ _ _ _ _ _ _ rfl (by decide)) (fun _ _ _ vs h => by obtain ⟨_, _, _, rfl⟩ := vlen3 h; rfl) ?_
  refine ex_step (ex1_assign (ev_call 2 (evl_cons ev_name evl_nil) (c_lname H n))) ?_
  refine ex_step (ex1_assign (x := prV ([46, 46], [])) (ev_tuple (evl_cons (str [46, 46] (by decide +kernel)) (evl_cons (str [] (by decide +kernel)) evl_nil)))) ?_
  refine ex_ifj (σ' := at' σ i (pieceB s w n).2) (ρ' := [("piece", prV (pieceB s w n).1), ("held", .cell i)]) (evb_cmp ev_name ev_int op_eq_int) (fun h => ?_) (fun h => ?_) ?_
  · have hw : w = 1 := by simpa using h
    refine ex_step (ex1_assign (x := prV (pieceB s w n).1) (ev_eq (ev_if (c := decide (n % 2 = 1) && !decide (s.pieces = [])) (evb_and (evb_eq (evb_cmp (ev_bin ev_name ev_int (op_mod_int (by decide))) ev_int op_eq_int) (by rw [Bool.eq_iff_iff]; simp)) (fun _ => evb_cmp (rd hi ev_name (get_pieces s) (by decide +kernel)) (ev_list evl_nil) (op_ne (cm_txL s.pieces []) (by decide)))) (fun _ => ev_tuple (evl_cons (str [] (by decide +kernel)) (evl_cons (str [] (by decide +kernel)) evl_nil))) (fun _ => ev_tuple (evl_cons (str [46] (by decide +kernel)) (evl_cons (str [] (by decide +kernel)) evl_nil)))) ?_)) (ex_nil (Exists.intro (((Str.ofString "piece"), prV (pieceB s w n).1) :: ((Str.ofString "piece"), prV ([46, 46], [])) :: ((Str.ofString "name"), prV (lnName n)) :: [((Str.ofString "held"), V.cell i), ((Str.ofString "which"), .int w), ((Str.ofString "n"), .int n)]) ⟨?_, sub_of ⟨rfl, rfl, trivial⟩⟩))
    · unfold pieceB; rw [if_pos hw]
      by_cases hc : n % 2 = 1 ∧ s.pieces ≠ []
      · rw [if_pos hc, if_pos (by simpa using hc)]; rfl
      · rw [if_neg hc, if_neg (by simpa using hc)]; rfl
    · have e : (pieceB s w n).2 = s := by unfold pieceB; rw [if_pos hw]
      rw [e]; rfl
  · have hw : w ≠ 1 := by simpa using h
    have fin : ∀ (ρ : Loc) (σ' : List MO) (s' : LS) (pc : Oct × Oct), pieceB s w n = (pc, s') → AllIn [("piece", prV pc), ("held", .cell i)] ρ → σ' = at' σ i s' → ∃ r, Out.nx ρ σ' = .nx r (at' σ i (pieceB s w n).2) ∧ ∀ x y, List.lookup x [(Str.ofString "piece", prV (pieceB s w n).1), (Str.ofString "held", V.cell i)] = some y → r.lookup x = some y := by
      intro ρ σ' s' pc e ha e'
      rw [e, e']
      exact ⟨ρ, rfl, sub_of ha⟩
    refine ex_if (evb_or (evb_cmp ev_name ev_int op_lt_int) fun _ => evb_and (evb_cmp ev_name ev_int op_gt_int) (fun _ => evb_cmp (rd hi ev_name (get_deep s) (by decide +kernel)) ev_int op_gt_int)) (fun h => ?_) (fun h => ?_)
    · have h' : w < 4 ∨ (5 < w ∧ 0 < s.deep) := by simpa using h
      refine ex_step (ex1_assign ev_name) ?_
      refine ex_step (wr (k := kDeep) (y := .int ((s.deep + 1 : Nat) : Int)) (s' := { s with deep := s.deep + 1 }) hi (ev_eq (ev_bin (rd hi ev_name (get_deep s) (by decide +kernel)) ev_int op_add_int) (by simp)) ev_name (hp := by rfl) (hx := by decide +kernel)) ?_
      refine ex_nil (fin _ _ _ (lnName n) ?_ ⟨rfl, rfl, trivial⟩ rfl)
      unfold pieceB; rw [if_neg hw, if_pos h']
    · have h' : ¬ (w < 4 ∨ (5 < w ∧ 0 < s.deep)) := by
        intro hh
        rcases hh with hh | ⟨ha, hb⟩
        · simp [hh] at h
        · simp [ha, hb] at h
      refine ex_if (evb_cmp ev_name ev_int op_gt_int) (fun h => ?_) (fun h => ?_)
      · have h2 : 5 < w := by simpa using h
        refine ex_step (ex1_assign ev_name) ?_
        refine ex_step (wr (k := kWay) (y := prL (s.way ++ [lnName n])) (s' := { s with way := s.way ++ [lnName n] }) hi (ev_eq (ev_bin (rd hi ev_name (get_way s) (by decide +kernel)) (ev_list (evl_cons ev_name evl_nil)) (op_add_list (.inl rfl) (.inl rfl) (by simp; omega))) (by unfold prL; simp)) ev_name (hp := by rfl) (hx := by decide +kernel)) ?_
        refine ex_nil (fin _ _ _ (lnName n) ?_ ⟨rfl, rfl, trivial⟩ rfl)
        unfold pieceB; rw [if_neg hw, if_neg h', if_pos h2]
      · have h2 : ¬ 5 < w := by simpa using h
        refine ex_if (evb_cmp (rd hi ev_name (get_deep s) (by decide +kernel)) ev_int op_gt_int) (fun h => ?_) (fun h => ?_)
        · have h3 : 0 < s.deep := by simpa using h
          refine ex_step (wr (k := kDeep) (y := .int ((s.deep - 1 : Nat) : Int)) (s' := { s with deep := s.deep - 1 }) hi (ev_eq (ev_bin (rd hi ev_name (get_deep s) (by decide +kernel)) ev_int op_sub_int) (by congr 1; omega)) ev_name (hp := by rfl) (hx := by decide +kernel)) ?_
          refine ex_nil (fin _ _ _ ([46, 46], []) ?_ ⟨rfl, rfl, trivial⟩ rfl)
          unfold pieceB; rw [if_neg hw, if_neg h', if_neg h2, if_pos h3]
        · have h3 : ¬ 0 < s.deep := by simpa using h
          refine ex_if (evb_cmp (rd hi ev_name (get_way s) (by decide +kernel)) (ev_list evl_nil) (op_ne (cm_prL s.way []) (by decide))) (fun h => ?_) (fun h => ?_)
          · have h4 : s.way ≠ [] := by simpa using h
            refine ex_step (ex1_assign (x := prV ([46], [])) (ev_tuple (evl_cons (str [46] (by decide +kernel)) (evl_cons (str [] (by decide +kernel)) evl_nil)))) ?_
            refine ex_nil (fin _ _ _ ([46], []) ?_ ⟨rfl, rfl, trivial⟩ rfl)
            unfold pieceB; rw [if_neg hw, if_neg h', if_neg h2, if_neg h3, if_pos h4]
          · have h4 : ¬ s.way ≠ [] := by simpa using h
            refine ex_if (evb_cmp (rd hi ev_name (get_root s) (by decide +kernel)) (str [] (by decide +kernel)) op_eq_tx) (fun h => ?_) (fun h => ?_)
            · have h5 : s.root = [] := by simpa using h
              refine ex_step (wr (k := kUps) (y := .int ((s.ups + 1 : Nat) : Int)) (s' := { s with ups := s.ups + 1 }) hi (ev_eq (ev_bin (rd hi ev_name (get_ups s) (by decide +kernel)) ev_int op_add_int) (by simp)) ev_name (hp := by rfl) (hx := by decide +kernel)) ?_
              refine ex_nil (fin _ _ _ ([46, 46], []) ?_ ⟨rfl, rfl, trivial⟩ rfl)
              unfold pieceB; rw [if_neg hw, if_neg h', if_neg h2, if_neg h3, if_neg h4, if_pos h5]
            · have h5 : ¬ s.root = [] := by simpa using h
              refine ex_nil (fin _ _ _ ([46, 46], []) ?_ ⟨rfl, rfl, trivial⟩ rfl)
              unfold pieceB; rw [if_neg hw, if_neg h', if_neg h2, if_neg h3, if_neg h4, if_neg h5]
  · have hl := pieceB_len s w n
    generalize hB : pieceB s w n = B at hl ⊢
    have hp1 : B.2.pieces = s.pieces := by rw [← hB]; unfold pieceB; (repeat' split) <;> rfl
    have hp2 : B.2.spelled = s.spelled := by rw [← hB]; unfold pieceB; (repeat' split) <;> rfl
    refine ex_step (wr (k := kPieces) (y := txL (B.2.pieces ++ [B.1.1 ++ B.1.2])) (s' := { B.2 with pieces := B.2.pieces ++ [B.1.1 ++ B.1.2] }) hi (ev_eq (ev_bin (rd hi ev_name (get_pieces B.2) (by decide +kernel)) (ev_list (evl_cons (ev_bin (ev_sub ev_name ev_int .tup (op_item_tup (y := .tx .s B.1.1) (by decide) (by decide) rfl)) (ev_sub ev_name ev_int .tup (op_item_tup (y := .tx .s B.1.2) (by decide) (by decide) rfl)) (op_add_s (by omega))) evl_nil)) (op_add_list (.inl rfl) (.inl rfl) (by simp [hp1]; omega))) (by unfold txL; simp)) ev_name (hp := by rfl) (hx := by decide +kernel)) ?_
    refine ex_step (wr (k := kSpelled) (y := prL (B.2.spelled ++ (if B.1 = ([], []) then [] else [B.1]))) (s' := pieceS s w n) hi (ev_eq (ev_bin (rd hi ev_name (get_spelled _) (by decide +kernel)) (ev_lc (xs := [prV B.1]) (fun _ => !decide (B.1 = ([], []))) (fun _ => prV B.1) (src_list (ev_list (evl_cons ev_name evl_nil)) (.inl rfl)) (by simp) (fun j y hy => ?_) rfl) (op_add_list (.inl rfl) (.inl rfl) ?_)) ?_) ev_name (hp := by unfold pieceS; rw [hB]; rfl) (hx := by decide +kernel)) (ex_nil nx_end)
    · have : y = prV B.1 := by
        match j, hy with
        | 0, hy => cases hy; rfl
      subst this
      refine ⟨_, asg_name, ?_, tst_one (evb_cmp ev_name (ev_tuple (evl_cons (str [] (by decide +kernel)) (evl_cons (str [] (by decide +kernel)) evl_nil))) (op_ne (cm_prV B.1 ([], [])) (by decide))), fun _ => ev_name⟩
      exact sub_of trivial
    · show (B.2.spelled.map prV).length + (outs _ _ 1).length ≤ _
      have : (outs (fun _ => !decide (B.1 = ([], []))) (fun _ => prV B.1) 1).length ≤ 1 := by
        unfold outs; rw [List.length_map]; exact Nat.le_trans (List.length_filter_le _ _) (by simp)
      rw [List.length_map, hp2]; omega
    · unfold outs prL
      by_cases hc : B.1 = ([], []) <;> simp [hc, List.range_succ]
end
end Mine
end
section
open PySem PySem.W PyProof.Rows PySem.Calls PySem.SeqAt
set_option Elab.async false
set_option linter.unusedVariables false
set_option linter.unusedSectionVars false
set_option maxRecDepth 100000
namespace Mine
noncomputable def up2 : Oct × Oct := ([46, 46], [])
noncomputable def rows0 (s : LS) : List (Oct × Oct) := List.replicate s.ups up2 ++ s.way
noncomputable def rowsOf (s : LS) : List (Oct × Oct) := if rows0 s = [] ∧ s.root = [] then [([46], [])] else rows0 s
noncomputable def partsOf (s : LS) : List Oct := s.texts ++ [partOf s] ++ [jn [47] (List.replicate s.deep [46, 46])]
noncomputable def crookedOf (s : LS) : Oct := jos ((partsOf s).headD []) ((partsOf s).drop 1)
noncomputable def spelledOf (s : LS) : List (Oct × Oct) := 
  let l := s.spelled ++ List.replicate s.deep up2
  if l ≠ [] ∧ s.deep = 0 then l ++ [([], [])] else l
/-- what _law_there gives -/
structure TH where
  plain : Oct
  root : Oct
  rows : List (Oct × Oct)
  crooked : Oct
  ahead : Oct
  spelled : List (Oct × Oct)
noncomputable def thereOf (s : LS) : TH := ⟨np (crookedOf s), s.root, rowsOf s, crookedOf s, s.ahead, spelledOf s⟩
noncomputable def thV (t : TH) : V := .tup [.tx .s t.plain, .tx .s t.root, prL t.rows, .tx .s t.crooked, .tx .s t.ahead, prL t.spelled]
end Mine
end
section
open PySem PySem.W PyProof.Rows PySem.Calls PySem.SeqAt
set_option Elab.async false
set_option linter.unusedVariables false
set_option linter.unusedSectionVars false
set_option maxRecDepth 100000
namespace Mine
section
variable {g : Glo} (H : Has g pw) {σ : List MO}
include H
theorem c_there (s : LS) (i : Nat) (hi : i < σ.length) (h0 : s.front.length + tot s.pieces ≤ 100000) (h1 : tot (partsOf s) ≤ 1000000) (h2 : s.spelled.length ≤ 100000) (h3 : s.way.length ≤ 100000) (h4 : s.ups ≤ 100000) (h5 : s.deep ≤ 100000) : Fn g 8 "_law_there" [.cell i] (at' σ i s) (thV (thereOf s)) (at' σ i s) := by
  have str : ∀ {n : Nat} (l : Oct) {x : Str} {kk : Nat} {p : Pos} {ρ : Loc} {σ : List MO} {sc : Scope}, x = S8 l → Ev g sc n (.Constant (.str x) kk p) ρ σ (.tx .s l) σ := fun l _ _ _ _ _ _ h => ev_str h
  have dd : ∀ {n : Nat} {sc : Scope} {ρ : Loc} {x y : Str} {k1 k2 k3 : Nat} {p1 p2 p3 : Pos}, x = S8 [46, 46] → y = S8 [] → Ev g sc n (.Tuple [.Constant (.str x) k1 p1, .Constant (.str y) k2 p2] k3 p3) ρ (at' σ i s) (prV up2) (at' σ i s) := fun hx hy => ev_tuple (evl_cons (ev_str hx) (evl_cons (ev_str hy) evl_nil))
  refine fn_at ["held"] (H.defs 31 _ _ _ _ _ _ _ _ _ _ rfl (by decide)) (fun _ _ _ vs h => by obtain ⟨_, rfl⟩ := vlen1 h; rfl) ?_
  refine ex_step (ex1_assign (x := prL (rows0 s)) (ev_eq (ev_bin (ev_mulOne rfl (dd (by decide +kernel) (by decide +kernel)) (rd hi ev_name (get_ups s) (by decide +kernel)) (by omega)) (rd hi ev_name (get_way s) (by decide +kernel)) (op_add_list (.inl rfl) (.inl rfl) (by simp; omega))) (by unfold prL rows0; simp))) ?_
  refine ex_ifj (σ' := at' σ i s) (ρ' := [("rows", prL (rowsOf s)), ("held", .cell i)]) (evb_and (evb_cmp ev_name (ev_list evl_nil) (op_eq (cm_prL (rows0 s) []) (by decide))) (fun _ => evb_cmp (rd hi ev_name (get_root s) (by decide +kernel)) (str [] (by decide +kernel)) op_eq_tx)) (fun h => ?_) (fun h => ?_) ?_
  · have hc : rows0 s = [] ∧ s.root = [] := by simpa using h
    refine ex_step (ex1_assign (x := prL [([46], [])]) (ev_list (evl_cons (ev_tuple (evl_cons (str [46] (by decide +kernel)) (evl_cons (str [] (by decide +kernel)) evl_nil))) evl_nil))) (ex_nil ⟨_, rfl, sub_of ⟨?_, rfl, trivial⟩⟩)
    unfold rowsOf; rw [if_pos hc]; rfl
  · have hc : ¬ (rows0 s = [] ∧ s.root = []) := by
      intro hh; simp [hh.1, hh.2] at h
    refine ex_nil ⟨_, rfl, sub_of ⟨?_, rfl, trivial⟩⟩
    unfold rowsOf; rw [if_neg hc]; rfl
  · have hne : partsOf s ≠ [] := by unfold partsOf; simp
    obtain ⟨a, ps, hp⟩ := List.exists_cons_of_ne_nil hne
    have hj : (jn [47] (List.replicate s.deep [46, 46] : List Oct)).length ≤ 3 * s.deep := by
      refine Nat.le_trans (jn_len _) ?_
      unfold tot; simp; omega
    have htl := tot_length (partsOf s)
    have htx : s.texts.length ≤ 1000000 := by
      have : s.texts.length ≤ (partsOf s).length := by unfold partsOf; simp
      omega
    refine ex_step (ex1_assign (x := txL (s.texts ++ [partOf s])) (ev_eq (ev_bin (rd hi ev_name (get_texts s) (by decide +kernel)) (ev_list (evl_cons (ev_part H hi (by omega) ev_name ev_name (by decide +kernel) (by decide +kernel) (by decide +kernel)) evl_nil)) (op_add_list (.inl rfl) (.inl rfl) (by simp; omega))) (by unfold txL; simp))) ?_
    refine ex_step (ex1_assign (x := txL (partsOf s)) (ev_eq (ev_bin ev_name (ev_list (evl_cons (ev_meth (str [47] (by decide +kernel)) (evl_cons (ev_mulOne rfl (str [46, 46] (by decide +kernel)) (rd hi ev_name (get_deep s) (by decide +kernel)) (by omega)) evl_nil) (txops_s.join _ _ _ (List.replicate s.deep [46, 46]) _ (.inl (by simp)) (by simp; omega))) evl_nil)) (op_add_list (.inl rfl) (.inl rfl) (by simp; omega))) (by unfold txL partsOf; simp))) ?_
    have hcr : crookedOf s = jos a ps := by unfold crookedOf; rw [hp]; rfl
    have hz1 : a.length + tot ps ≤ 1000000 := by rw [hp, tot_cons] at h1; omega
    have hcl := jos_len ps a
    have hjn : Fn g 4 "join" (.tx .s a :: ps.map (.tx .s)) (at' σ i s) (.tx .s (crookedOf s)) (at' σ i s) := by rw [hcr]; exact c_join H txops_s a ps hz1
    refine ex_step (ex1_assign (x := .tx .s (crookedOf s)) (ev_call (σ₁ := at' σ i s) (σ₂ := at' σ i s) 4 (xs := .tx .s a :: ps.map (.tx .s)) ?_ hjn)) ?_
    · have e : ps.map (V.tx .s) = psl ((partsOf s).map (V.tx .s)) (some 1) none ++ [] := by
        rw [hp, List.append_nil]
        have hc : clipAt (List.map (V.tx Kd.s) (a :: ps)).length 1 = 1 := by
          unfold clipAt; simp; omega
        unfold psl
        simp only [Option.elim]
        rw [hc]; simp
        rw [List.take_of_length_le (by simp)]
      rw [e]
      exact evl_cons (ev_sub ev_name ev_int (.lst (.inl rfl)) (op_item_list (.inl rfl) (by decide) (by decide) (by rw [hp]; rfl))) (evl_star (.inl (ev_slcL ev_name (evp_some ev_int) evp_none (by simp; omega))) (Nat.le_trans (psl_length _ _ _) (by simp; omega)) evl_nil)
    refine ex_step (ex1_assign (x := prL (s.spelled ++ List.replicate s.deep up2)) (ev_eq (ev_bin (rd hi ev_name (get_spelled s) (by decide +kernel)) (ev_mulOne rfl (dd (by decide +kernel) (by decide +kernel)) (rd hi ev_name (get_deep s) (by decide +kernel)) (by omega)) (op_add_list (.inl rfl) (.inl rfl) (by simp; omega))) (by unfold prL; simp))) ?_
    refine ex_ifj (σ' := at' σ i s) (ρ' := [("spelled", prL (spelledOf s)), ("crooked", .tx .s (crookedOf s)), ("rows", prL (rowsOf s)), ("held", .cell i)]) (evb_and (evb_cmp ev_name (ev_list evl_nil) (op_ne (cm_prL _ []) (by decide))) (fun _ => evb_cmp (rd hi ev_name (get_deep s) (by decide +kernel)) ev_int op_eq_int)) (fun h => ?_) (fun h => ?_) ?_
    · have hc : s.spelled ++ List.replicate s.deep up2 ≠ [] ∧ s.deep = 0 := by
        rw [Bool.and_eq_true] at h
        refine ⟨fun hh => ?_, by simpa using h.2⟩
        have := h.1; rw [hh] at this; simp at this
      refine ex_step (ex1_assign (x := prL (s.spelled ++ List.replicate s.deep up2 ++ [([], [])])) (ev_eq (ev_bin ev_name (ev_list (evl_cons (ev_tuple (evl_cons (str [] (by decide +kernel)) (evl_cons (str [] (by decide +kernel)) evl_nil))) evl_nil)) (op_add_list (.inl rfl) (.inl rfl) (by simp; omega))) (by unfold prL; simp [prV]))) (ex_nil ⟨_, rfl, sub_of ⟨?_, rfl, rfl, rfl, trivial⟩⟩)
      unfold spelledOf; rw [if_pos hc]; rfl
    · have hc : ¬ (s.spelled ++ List.replicate s.deep up2 ≠ [] ∧ s.deep = 0) := by
        intro hh; simp [hh.1, hh.2] at h
        simp_all
      refine ex_nil ⟨_, rfl, sub_of ⟨?_, rfl, rfl, rfl, trivial⟩⟩
      unfold spelledOf; rw [if_neg hc]; rfl
    refine ex_ret (ev_tuple (evl_cons (ev_call 6 (evl_cons ev_name evl_nil) (c_normpath H txops_s (crookedOf s) (by rw [hcr]; omega))) (evl_cons (rd hi ev_name (get_root s) (by decide +kernel)) (evl_cons ev_name (evl_cons ev_name (evl_cons (rd hi ev_name (get_ahead s) (by decide +kernel)) (evl_cons ev_name evl_nil))))))) ret_end
end
end Mine
end
section
open PySem PySem.W PyProof.Rows PySem.Calls PySem.SeqAt
set_option Elab.async false
set_option linter.unusedVariables false
set_option linter.unusedSectionVars false
set_option maxRecDepth 100000
namespace Mine
noncomputable def clP (f : Oct → Oct) (p : Oct) : Nat → Oct
  | 0 => p
  | i + 1 => f (clP f p i)
theorem clP_succ (f : Oct → Oct) (p : Oct) (i : Nat) : clP f (f p) i = clP f p (i + 1) := by
  induction i with
  | zero => rfl
  | succ i ih => show f (clP f (f p) i) = f (clP f p (i + 1)); rw [ih]
/-- how often one climbs -/
noncomputable def stp (d : Oct → Oct) (f : Oct → Oct) : Nat → Oct → Nat
  | 0, _ => 0
  | n + 1, p => if d p = p then 0 else stp d f n (f p) + 1
theorem stp_ne (d f : Oct → Oct) : ∀ (n : Nat) (p : Oct) (i : Nat), i < stp d f n p → d (clP f p i) ≠ clP f p i
  | 0, p, i, h => by simp [stp] at h
  | n + 1, p, i, h => by
    unfold stp at h
    split at h
    · omega
    · rename_i hp
      cases i with
      | zero => exact hp
      | succ i => rw [← clP_succ]; exact stp_ne d f n (f p) i (by omega)
theorem stp_eq (d f : Oct → Oct) (h0 : d [] = []) (hl : ∀ p, d p ≠ p → (f p).length < p.length) : ∀ (n : Nat) (p : Oct), p.length ≤ n → d (clP f p (stp d f n p)) = clP f p (stp d f n p)
  | 0, p, h => by
    have : p = [] := List.length_eq_zero_iff.mp (by omega)
    subst this; exact h0
  | n + 1, p, h => by
    unfold stp
    split
    · assumption
    · rename_i hp
      rw [← clP_succ]
      have := hl p hp
      exact stp_eq d f h0 hl n (f p) (by omega)
end Mine
end
section
open PySem PySem.W PyProof.Rows PySem.Calls PySem.SeqAt
set_option Elab.async false
set_option linter.unusedVariables false
set_option linter.unusedSectionVars false
set_option maxRecDepth 100000
namespace Mine
theorem rst_prefix (c : UInt8) (l : Oct) : rst c l <+: l := by
  unfold rst
  have h := List.dropWhile_suffix (l := l.reverse) (· == c)
  have h2 := List.reverse_prefix.mpr h
  rwa [List.reverse_reverse] at h2
theorem dn_prefix (p : Oct) : dn p <+: p := by
  unfold dn hd'
  split
  · exact (rst_prefix _ _).trans (List.take_prefix _ _)
  · exact List.take_prefix _ _
theorem dn_lt (p : Oct) (h : dn p ≠ p) : (dn p).length < p.length := by
  have h1 := dn_prefix p
  have h2 := h1.length_le
  by_cases e : (dn p).length = p.length
  · exact (h (h1.eq_of_length e)).elim
  · omega
theorem dn_nil : dn [] = [] := by decide
noncomputable def clN (p : Oct) : Nat → List Oct
  | 0 => []
  | i + 1 => bn (clP dn p i) :: clN p i
noncomputable def climbN (p : Oct) : Nat := stp dn dn p.length p
noncomputable def climbOf (p : Oct) : Oct × List Oct := (clP dn p (climbN p), clN p (climbN p))
theorem clP_len (p : Oct) (i : Nat) : (clP dn p i).length ≤ p.length := by
  induction i with
  | zero => exact Nat.le_refl _
  | succ i ih => exact Nat.le_trans (dn_prefix _).length_le ih
theorem stp_le (d f : Oct → Oct) : ∀ n p, stp d f n p ≤ n
  | 0, _ => Nat.le_refl _
  | n + 1, p => by
    unfold stp
    split
    · omega
    · have := stp_le d f n (f p); omega
theorem clN_len (p : Oct) (i : Nat) : (clN p i).length = i := by
  induction i with
  | zero => rfl
  | succ i ih => simp [clN, ih]
section
variable {g : Glo} (H : Has g pw) {σ : List MO}
include H
theorem c_climbed (p : Oct) (hz : p.length ≤ 1000000) : Fn g 5 "_law_climbed" [.tx .s p] σ (.tup [.tx .s (climbOf p).1, txL (climbOf p).2]) σ := by
  refine fn_at ["path"] (H.defs 33 _ _ _ _ _ _ _ _ _ _ rfl (by decide)) (fun _ _ _ vs h => by obtain ⟨_, rfl⟩ := vlen1 h; rfl) ?_
  refine ex_step (ex1_assign (ev_list evl_nil)) ?_
  refine ex_while (fun i => [("names", txL (clN p i)), ("path", .tx .s (clP dn p i))]) (fun _ => σ) (fun _ => True) (climbN p) rfl (sub_of ⟨rfl, rfl, trivial⟩) trivial (fun i hi _ => ?_) (fun _ => ?_)
  · have hne := stp_ne dn dn p.length p i hi
    have hl := clP_len p i
    have hle := stp_le dn dn p.length p
    have hcl := clN_len p i
    have hi' : i < stp dn dn p.length p := hi
    refine ⟨evb_eq (evb_cmp (ev_call 4 (evl_cons ev_name evl_nil) (c_dirname H txops_s _ (by omega))) ev_name op_ne_tx) (by simpa using hne), ?_⟩
    refine ex_step (ex1_assign (x := txL (clN p (i + 1))) (ev_eq (ev_bin (ev_list (evl_cons (ev_call 4 (evl_cons ev_name evl_nil) (c_basename H txops_s _ (by omega))) evl_nil)) ev_name (op_add_list (.inl rfl) (.inl rfl) (by simp; omega))) (by unfold txL; rfl))) ?_
    exact ex_step (ex1_assign (ev_call 4 (evl_cons ev_name evl_nil) (c_dirname H txops_s _ (by omega)))) (ex_nil (.nx trivial (sub_of ⟨rfl, rfl, trivial⟩)))
  · have he := stp_eq dn dn dn_nil dn_lt p.length p (Nat.le_refl _)
    have hl := clP_len p (climbN p)
    refine ⟨evb_eq (evb_cmp (ev_call 4 (evl_cons ev_name evl_nil) (c_dirname H txops_s _ (by omega))) ev_name op_ne_tx) (by have he' : dn (clP dn p (climbN p)) = clP dn p (climbN p) := he; rw [he']; simp), ?_⟩
    exact ex_ret (ev_tuple (evl_cons ev_name (evl_cons ev_name evl_nil))) ret_end
end
end Mine
end
section
open PySem PySem.W PyProof.Rows PySem.Calls PySem.SeqAt
set_option Elab.async false
set_option linter.unusedVariables false
set_option linter.unusedSectionVars false
set_option maxRecDepth 100000
namespace Mine
theorem sx_prefix (p : Oct) : (sx p).1 <+: p := by
  unfold sx
  split
  · exact List.take_prefix _ _
  · exact List.prefix_refl _
/-- one step of reading back -/
noncomputable def rbS (p : Oct) : Oct := dn (sx p).1
theorem rbS_prefix (p : Oct) : rbS p <+: p := (dn_prefix _).trans (sx_prefix p)
theorem rbS_lt (p : Oct) (h : dn p ≠ p) : (rbS p).length < p.length := by
  have h1 := rbS_prefix p
  have h2 := h1.length_le
  by_cases e : (rbS p).length = p.length
  · have e1 := (sx_prefix p).length_le
    have e2 := (dn_prefix (sx p).1).length_le
    have : (sx p).1 = p := (sx_prefix p).eq_of_length (by unfold rbS at e; omega)
    have e3 := h1.eq_of_length e
    unfold rbS at e3
    rw [this] at e3
    exact (h e3).elim
  · omega
noncomputable def rbR (p : Oct) : Nat → List (Oct × Oct)
  | 0 => []
  | i + 1 => (bn (sx (clP rbS p i)).1, (sx (clP rbS p i)).2) :: rbR p i
noncomputable def rbN (p : Oct) : Nat := stp dn rbS p.length p
noncomputable def readOf (p : Oct) : Oct × List (Oct × Oct) := (clP rbS p (rbN p), rbR p (rbN p))
theorem rbP_len (p : Oct) (i : Nat) : (clP rbS p i).length ≤ p.length := by
  induction i with
  | zero => exact Nat.le_refl _
  | succ i ih => exact Nat.le_trans (rbS_prefix _).length_le ih
theorem rbR_len (p : Oct) (i : Nat) : (rbR p i).length = i := by
  induction i with
  | zero => rfl
  | succ i ih => simp [rbR, ih]
section
variable {g : Glo} (H : Has g pw) {σ : List MO}
include H
theorem c_read (p : Oct) (hz : p.length ≤ 1000000) : Fn g 7 "_law_read_back" [.tx .s p] σ (.tup [.tx .s (readOf p).1, prL (readOf p).2]) σ := by
  refine fn_at ["path"] (H.defs 32 _ _ _ _ _ _ _ _ _ _ rfl (by decide)) (fun _ _ _ vs h => by obtain ⟨_, rfl⟩ := vlen1 h; rfl) ?_
  refine ex_step (ex1_assign (ev_list evl_nil)) ?_
  refine ex_while (fun i => [("rows", prL (rbR p i)), ("path", .tx .s (clP rbS p i))]) (fun _ => σ) (fun _ => True) (rbN p) rfl (sub_of ⟨rfl, rfl, trivial⟩) trivial (fun i hi _ => ?_) (fun _ => ?_)
  · have hne := stp_ne dn rbS p.length p i hi
    have hl := rbP_len p i
    have hle := stp_le dn rbS p.length p
    have hcl := rbR_len p i
    have hsl := (sx_prefix (clP rbS p i)).length_le
    have hi' : i < stp dn rbS p.length p := hi
    refine ⟨evb_eq (evb_cmp (ev_call 4 (evl_cons ev_name evl_nil) (c_dirname H txops_s _ (by omega))) ev_name op_ne_tx) (by simpa using hne), ?_⟩
    refine ex_step (ex1_untup (ev_call 6 (evl_cons ev_name evl_nil) (c_splitext H txops_s _ (by omega))) (asg_tup (asgl_cons asg_name (asgl_cons asg_name asgl_nil)))) ?_
    refine ex_step (ex1_untup (ev_call 4 (evl_cons ev_name evl_nil) (c_split H txops_s _ (by omega))) (asg_tup (asgl_cons asg_name (asgl_cons asg_name asgl_nil)))) ?_
    refine ex_step (ex1_assign (x := prL (rbR p (i + 1))) (ev_eq (ev_bin (ev_list (evl_cons (ev_tuple (evl_cons ev_name (evl_cons ev_name evl_nil))) evl_nil)) ev_name (op_add_list (.inl rfl) (.inl rfl) (by simp; omega))) (by unfold prL; rfl))) ?_
    exact ex_nil (.nx trivial (sub_of ⟨rfl, rfl, trivial⟩))
  · have he := stp_eq dn rbS dn_nil rbS_lt p.length p (Nat.le_refl _)
    have hl := rbP_len p (rbN p)
    refine ⟨evb_eq (evb_cmp (ev_call 4 (evl_cons ev_name evl_nil) (c_dirname H txops_s _ (by omega))) ev_name op_ne_tx) (by have he' : dn (clP rbS p (rbN p)) = clP rbS p (rbN p) := he; rw [he']; simp), ?_⟩
    exact ex_ret (ev_tuple (evl_cons ev_name (evl_cons ev_name evl_nil))) ret_end
end
end Mine
end
section
open PySem PySem.W PyProof.Rows PySem.Calls PySem.SeqAt
set_option Elab.async false
set_option linter.unusedVariables false
set_option linter.unusedSectionVars false
set_option maxRecDepth 100000
namespace Mine
/-- the names that two ways begin with -/
noncomputable def lcN : List (Oct × Oct) → List (Oct × Oct) → List Oct
  | a :: as, b :: bs => if a = b ∧ a ≠ ([46], []) then (a.1 ++ a.2) :: lcN as bs else []
  | _, _ => []
noncomputable def lcOf (br nr : Oct) (bl nl : List (Oct × Oct)) : Option Oct :=
  if (br == []) != (nr == []) then none else some ((if nr = [] then [] else [47]) ++ jn [47] (lcN bl nl))
noncomputable def optV : Option Oct → V
  | none => .none
  | some t => .tx .s t
noncomputable def lcA (bl nl : List (Oct × Oct)) (i : Nat) : List Oct := ((bl.zip nl).take i).map fun p => p.1.1 ++ p.1.2
theorem lcN_drop {bl nl : List (Oct × Oct)} {i : Nat} {a b : Oct × Oct} (h1 : bl[i]? = some a) (h2 : nl[i]? = some b) : lcN (bl.drop i) (nl.drop i) = if a = b ∧ a ≠ ([46], []) then (a.1 ++ a.2) :: lcN (bl.drop (i + 1)) (nl.drop (i + 1)) else [] := by
  obtain ⟨hi, rfl⟩ := List.getElem?_eq_some_iff.mp h1
  obtain ⟨hi2, rfl⟩ := List.getElem?_eq_some_iff.mp h2
  rw [List.drop_eq_getElem_cons hi, List.drop_eq_getElem_cons hi2]
  rfl
theorem lcA_succ {bl nl : List (Oct × Oct)} {i : Nat} {a b : Oct × Oct} (h1 : bl[i]? = some a) (h2 : nl[i]? = some b) : lcA bl nl (i + 1) = lcA bl nl i ++ [a.1 ++ a.2] := by
  unfold lcA
  have : (bl.zip nl)[i]? = some (a, b) := by
    rw [List.getElem?_zip_eq_some]; exact ⟨h1, h2⟩
  rw [List.take_add_one, this]
  simp
theorem lcN_end {bl nl : List (Oct × Oct)} : lcN (bl.drop (min bl.length nl.length)) (nl.drop (min bl.length nl.length)) = [] := by
  by_cases h : bl.length ≤ nl.length
  · rw [Nat.min_eq_left h, List.drop_of_length_le (Nat.le_refl bl.length)]
    cases nl.drop bl.length <;> rfl
  · rw [Nat.min_eq_right (by omega), List.drop_of_length_le (Nat.le_refl nl.length)]
    cases bl.drop nl.length <;> rfl
theorem lcN_tot : ∀ (as bs : List (Oct × Oct)), tot (lcN as bs) ≤ tot (as.map fun a => a.1 ++ a.2)
  | [], bs => by cases bs <;> exact Nat.le_refl _
  | x :: as, [] => Nat.zero_le _
  | x :: as, y :: bs => by
    have := lcN_tot as bs
    rw [List.map_cons, tot_cons]
    unfold lcN
    split
    · rw [tot_cons]; omega
    · exact Nat.zero_le _
section
variable {g : Glo} (H : Has g pw) {σ : List MO}
include H
theorem c_lcommon (bp br np nr : Oct) (bl nl : List (Oct × Oct)) (bz nz : List V) (hb : bl.length ≤ 100000) (ht : tot (bl.map fun a => a.1 ++ a.2) ≤ 1000000) :
    Fn g 2 "_law_common" [.tup (.tx .s bp :: .tx .s br :: prL bl :: bz), .tup (.tx .s np :: .tx .s nr :: prL nl :: nz)] σ (optV (lcOf br nr bl nl)) σ := by
  have str : ∀ {n : Nat} (l : Oct) {x : Str} {kk : Nat} {p : Pos} {ρ : Loc} {σ : List MO} {sc : Scope}, x = S8 l → Ev g sc n (.Constant (.str x) kk p) ρ σ (.tx .s l) σ := fun l _ _ _ _ _ _ h => ev_str h
  refine fn_drop (j := if (br == []) != (nr == []) then [] else [.list ((lcN bl nl).map (.tx .s))]) ?_ (fun m => by cases lcOf br nr bl nl with | none => exact .none | some t => exact .tx _ _)
  refine fn_at ["before", "now"] (H.defs 34 _ _ _ _ _ _ _ _ _ _ rfl (by decide)) (fun _ _ _ vs h => by obtain ⟨_, _, rfl⟩ := vlen2 h; rfl) ?_
  have i1 : ∀ {σ : List MO} (p r : Oct) (l : List (Oct × Oct)) (z : List V), Op2 g 1 σ getItem (.tup (.tx .s p :: .tx .s r :: prL l :: z)) (.int 1) (.tx .s r) σ := fun p r l z => op_item_tup (by decide) (by decide) rfl
  have i2 : ∀ {σ : List MO} (p r : Oct) (l : List (Oct × Oct)) (z : List V), Op2 g 1 σ getItem (.tup (.tx .s p :: .tx .s r :: prL l :: z)) (.int 2) (prL l) σ := fun p r l z => op_item_tup (by decide) (by decide) rfl
  refine ex_if (evb_cmp (ev_cmp (ev_sub ev_name ev_int .tup (i1 bp br bl bz)) (str [] (by decide +kernel)) op_eq_tx) (ev_cmp (ev_sub ev_name ev_int .tup (i1 np nr nl nz)) (str [] (by decide +kernel)) op_eq_tx) op_ne_bool) (fun h => ?_) (fun h => ?_)
  · have h' : ((br == []) != (nr == [])) = true := h
    refine ex_ret ev_none ?_
    rw [if_pos h', List.append_nil]
    have : lcOf br nr bl nl = none := by unfold lcOf; rw [if_pos h']
    rw [this]; exact ret_end
  · have h' : ((br == []) != (nr == [])) = false := h
    rw [h']
    refine ex_step (ex1_assign (ev_newL evl_nil)) ?_
    have hcell : ∀ l : List V, (σ ++ [MO.list l])[σ.length]? = some (MO.list l) := fun l => by simp
    have hset : ∀ l l' : List V, (σ ++ [MO.list l]).set σ.length (MO.list l') = σ ++ [MO.list l'] := fun l l' => by simp
    refine ex_forj (xs := List.zipWith (fun x y => .tup [x, y]) (bl.map prV) (nl.map prV)) (fun _ => [("names", .cell σ.length), ("now", .tup (.tx .s np :: .tx .s nr :: prL nl :: nz))]) (fun i => σ ++ [.list ((lcA bl nl i).map (.tx .s))]) (fun i => lcN bl nl = lcA bl nl i ++ lcN (bl.drop i) (nl.drop i))
      [("names", .cell σ.length), ("now", .tup (.tx .s np :: .tx .s nr :: prL nl :: nz))] (σ ++ [.list ((lcN bl nl).map (.tx .s))])
      (src_zip (ev_sub ev_name ev_int .tup (i2 bp br bl bz)) (ev_sub ev_name ev_int .tup (i2 np nr nl nz))) (sub_of ⟨rfl, rfl, trivial⟩) rfl (fun i y hy hok => ?_) (fun hok => ⟨?_, sub_of ⟨rfl, rfl, trivial⟩⟩) ?_
    · obtain ⟨x, y', hx, hy', rfl⟩ := List.getElem?_zipWith_eq_some.mp hy
      rw [List.getElem?_map] at hx hy'
      obtain ⟨a, ha, rfl⟩ := Option.map_eq_some_iff.mp hx
      obtain ⟨b, hb', rfl⟩ := Option.map_eq_some_iff.mp hy'
      have hi := (List.getElem?_eq_some_iff.mp ha).1
      have hal : (a.1 ++ a.2).length + 1 ≤ 1000000 := Nat.le_trans (tot_mem (List.mem_map.mpr ⟨a, List.mem_of_getElem? ha, rfl⟩)) ht
      rw [List.length_append] at hal
      have hd := lcN_drop ha hb'
      have hacc : (lcA bl nl i).length ≤ i := by unfold lcA; simp; omega
      refine ⟨_, asg_tup (asgl_cons asg_name (asgl_cons asg_name asgl_nil)), ?_⟩
      refine ex_if (evb_or (evb_cmp ev_name ev_name (op_ne (cm_prV a b) (by decide))) fun _ => evb_cmp ev_name (ev_tuple (evl_cons (str [46] (by decide +kernel)) (evl_cons (str [] (by decide +kernel)) evl_nil))) (op_eq (cm_prV a ([46], [])) (by decide))) (fun hc => ?_) (fun hc => ?_)
      · refine ex_brk (.bk ⟨?_, sub_of ⟨rfl, rfl, trivial⟩⟩)
        rw [hok, hd, if_neg, List.append_nil]
        rintro ⟨h1, h2⟩
        simp [h1] at hc
        exact h2 (h1.trans hc)
      · have hab : a = b ∧ a ≠ ([46], []) := by
          rw [Bool.or_eq_false_iff] at hc
          refine ⟨by simpa using hc.1, by simpa using hc.2⟩
        refine ex_step (ex1_expr (ev_meth ev_name (evl_cons (ev_bin (ev_sub ev_name ev_int .tup (op_item_tup (y := .tx .s a.1) (by decide) (by decide) rfl)) (ev_sub ev_name ev_int .tup (op_item_tup (y := .tx .s a.2) (by decide) (by decide) rfl)) (op_add_s (by omega))) evl_nil) (mop_append (hcell _) (by simp; omega)))) ?_
        rw [hset]
        refine ex_nil ?_
        have e2 : List.map (V.tx .s) (lcA bl nl i) ++ [V.tx .s (a.1 ++ a.2)] = List.map (V.tx .s) (lcA bl nl (i + 1)) := by rw [lcA_succ ha hb', List.map_append]; rfl
        rw [e2]
        refine .nx ?_ (sub_of ⟨rfl, rfl, trivial⟩)
        rw [hok, hd, if_pos hab, lcA_succ ha hb', List.append_assoc]; rfl
    · have hN : (List.zipWith (fun x y => V.tup [x, y]) (bl.map prV) (nl.map prV)).length = min bl.length nl.length := by simp
      rw [hN] at hok ⊢
      rw [lcN_end, List.append_nil] at hok
      rw [hok]
    · have hlt := Nat.le_trans (lcN_tot bl nl) ht
      have hjl := jn_len (lcN bl nl)
      have hlv : LV (σ ++ [MO.list ((lcN bl nl).map (V.tx .s))]) (.cell σ.length) ((lcN bl nl).map (.tx .s)) := .inr ⟨_, rfl, hcell _⟩
      refine ex_ret (σ₁ := σ ++ [.list ((lcN bl nl).map (.tx .s))]) (x := .tx .s ((if nr = [] then [] else [47]) ++ jn [47] (lcN bl nl))) (ev_eq (ev_bin (ev_if (c := nr == []) (evb_cmp (ev_sub ev_name ev_int .tup (i1 np nr nl nz)) (str [] (by decide +kernel)) op_eq_tx) (fun _ => str [] (by decide +kernel)) (fun _ => str [47] (by decide +kernel))) (ev_meth (str [47] (by decide +kernel)) (evl_cons ev_name evl_nil) (txops_s.join _ _ [47] (lcN bl nl) _ hlv (Nat.le_trans (show tot (lcN bl nl) ≤ 1000000 from hlt) (by decide)))) ?_) rfl) ?_
      · by_cases hn : nr = []
        · rw [if_pos hn, if_pos (by simpa using hn)]; exact op_add_s (by simp; omega)
        · rw [if_neg hn, if_neg (by simpa using hn)]; exact op_add_s (by simp; omega)
      · have : lcOf br nr bl nl = some ((if nr = [] then [] else [47]) ++ jn [47] (lcN bl nl)) := by unfold lcOf; rw [if_neg (by rw [h']; decide)]
        rw [this]; exact ret_end
end
end Mine
end
section
open PySem PySem.W PyProof.Rows PySem.Calls PySem.SeqAt
set_option Elab.async false
set_option linter.unusedVariables false
set_option linter.unusedSectionVars false
set_option maxRecDepth 100000
namespace Mine
noncomputable def namesOf (l : List (Oct × Oct)) : List Oct := l.map fun p => p.1 ++ p.2
/-- what _law_right asks -/
structure Right (bp br : Oct) (bl : List (Oct × Oct)) (t : TH) : Prop where
  plain : t.plain = t.root ++ jn [47] (namesOf t.rows)
  read : readOf t.plain = (t.root, t.rows)
  join : jos t.root (namesOf t.rows) = t.plain
  abs : rooted t.plain = !(t.root == [])
  base : bn t.plain = (namesOf t.rows).getLastD []
  readC : readOf t.crooked = (t.ahead, t.spelled)
  absC : rooted t.crooked = !(t.root == [])
  climb : climbOf t.crooked = (t.ahead, namesOf t.spelled)
  comm : (if rooted bp = rooted t.plain then some (cpOf (rooted bp) bp [t.plain]) else none) = lcOf br t.root bl t.rows
structure RightSz (bp : Oct) (bl : List (Oct × Oct)) (t : TH) : Prop where
  z1 : bp.length ≤ 100000
  z2 : bl.length ≤ 100000
  z3 : tot (namesOf bl) ≤ 100000
  z4 : t.plain.length ≤ 100000
  z5 : t.crooked.length ≤ 100000
  z6 : tot (namesOf t.rows) ≤ 100000
  z7 : tot (namesOf t.spelled) ≤ 100000
theorem cm_res (a c : Oct) (b d : List (Oct × Oct)) : Cm 3 (.tup [.tx .s a, prL b]) (.tup [.tx .s c, prL d]) ((a == c) && decide (b = d)) := cm_pair (Cm.up (by decide) (cm_tx .s a c)) (cm_prL b d)
theorem cm_clm (a c : Oct) (b d : List Oct) : Cm 2 (.tup [.tx .s a, txL b]) (.tup [.tx .s c, txL d]) ((a == c) && decide (b = d)) := cm_pair (Cm.up (by decide) (cm_tx .s a c)) (cm_txL b d)
theorem cm_opt (a : Option Oct) : Cm 0 (optV a) (optV a) true := by
  cases a with
  | none => exact .none _
  | some t => have := cm_tx .s t t; rwa [beq_self_eq_true] at this
section
variable {g : Glo} (H : Has g pw) {σ : List MO}
include H
theorem ev_names {sc : Scope} {n : Nat} {ρ : Loc} {iter : Expr} {a b : Str} {pa pb pt p1 p2 p3 pos : Pos} {k : Nat} {scope : Scope} {l : List (Oct × Oct)} (hl : l.length ≤ 1000000) (ht : tot (namesOf l) ≤ 1000000) (hi : Ev g sc n iter ρ σ (prL l) σ)
    (hturn : ∀ p : Oct × Oct, p ∈ l → ∃ ρ', Asg g (relab scope sc) n (.Tuple [.Name a pa, .Name b pb] k pt) (prV p) (capt scope sc ρ) ρ' ∧ Sub (capt scope sc ρ) ρ' ∧ Ev g (relab scope sc) n (.BinOp (.Name a p1) .Add (.Name b p2) p3) ρ' σ (.tx .s (p.1 ++ p.2)) σ)
    (hc : lcScope scope = true := by decide +kernel) (hl' : lcLends scope sc = true := by decide +kernel) (hs : ∀ env x, foldedSetIterable iter env x = pure x := by intro _ _; rfl) :
    Ev g sc n (.ListComp (.BinOp (.Name a p1) .Add (.Name b p2) p3) [⟨.Tuple [.Name a pa, .Name b pb] k pt, iter, [], 0⟩] scope pos) ρ σ (txL (namesOf l)) σ := by
  refine ev_lc (xs := l.map prV) (fun _ => true) (fun i => .tx .s ((l.getD i ([], [])).1 ++ (l.getD i ([], [])).2)) (src_list hi (.inr ⟨⟨_, _, _, rfl⟩, fun y hy => by obtain ⟨q, _, rfl⟩ := List.mem_map.mp hy; exact ⟨_, rfl⟩⟩)) (by simp; omega) (fun i y hy => ?_) ?_ hc hl' hs
  · rw [List.getElem?_map] at hy
    obtain ⟨q, hq, rfl⟩ := Option.map_eq_some_iff.mp hy
    have e : l.getD i ([], []) = q := by rw [List.getD_eq_getElem?_getD, hq]; rfl
    obtain ⟨ρ', h1, h2, h3⟩ := hturn q (List.mem_of_getElem? hq)
    rw [e]
    exact ⟨ρ', h1, h2, tst_nil, fun _ => h3⟩
  · rw [outs_map (fun q : Oct × Oct => V.tx .s (q.1 ++ q.2)) ([], []) l (by simp)]
    show V.list ((l.map fun p => p.1 ++ p.2).map (V.tx .s)) = _
    rw [List.map_map]; rfl
theorem ex1_names {sc : Scope} {n : Nat} {ρ : Loc} {iter : Expr} {c a b : Str} {pc pa pb pt p1 p2 p3 pos pos' : Pos} {k : Nat} {scope : Scope} {l : List (Oct × Oct)} (hl : l.length ≤ 1000000) (ht : tot (namesOf l) ≤ 1000000) (hi : Ev g sc n iter ρ σ (prL l) σ)
    (hturn : ∀ p : Oct × Oct, p ∈ l → ∃ ρ', Asg g (relab scope sc) n (.Tuple [.Name a pa, .Name b pb] k pt) (prV p) (capt scope sc ρ) ρ' ∧ Sub (capt scope sc ρ) ρ' ∧ Ev g (relab scope sc) n (.BinOp (.Name a p1) .Add (.Name b p2) p3) ρ' σ (.tx .s (p.1 ++ p.2)) σ)
    (ha : isVar sc c = true := by decide +kernel) (hc : lcScope scope = true := by decide +kernel) (hl' : lcLends scope sc = true := by decide +kernel) (hs : ∀ env x, foldedSetIterable iter env x = pure x := by intro _ _; rfl) :
    Ex1 g sc n (.Assign [.Name c pc] (.ListComp (.BinOp (.Name a p1) .Add (.Name b p2) p3) [⟨.Tuple [.Name a pa, .Name b pb] k pt, iter, [], 0⟩] scope pos) pos') ρ σ ((c, txL (namesOf l)) :: ρ) σ := by
  refine ex1_lc (xs := l.map prV) (fun _ => true) (fun i => .tx .s ((l.getD i ([], [])).1 ++ (l.getD i ([], [])).2)) (src_list hi (.inr ⟨⟨_, _, _, rfl⟩, fun y hy => by obtain ⟨q, _, rfl⟩ := List.mem_map.mp hy; exact ⟨_, rfl⟩⟩)) (by simp; omega) (fun i y hy => ?_) ?_ ha hc hl' hs
  · rw [List.getElem?_map] at hy
    obtain ⟨q, hq, rfl⟩ := Option.map_eq_some_iff.mp hy
    have e : l.getD i ([], []) = q := by rw [List.getD_eq_getElem?_getD, hq]; rfl
    obtain ⟨ρ', h1, h2, h3⟩ := hturn q (List.mem_of_getElem? hq)
    rw [e]
    exact ⟨ρ', h1, h2, tst_nil, fun _ => h3⟩
  · rw [outs_map (fun q : Oct × Oct => V.tx .s (q.1 ++ q.2)) ([], []) l (by simp)]
    show V.list ((l.map fun p => p.1 ++ p.2).map (V.tx .s)) = _
    rw [List.map_map]; rfl
theorem c_lright (bp br : Oct) (bl : List (Oct × Oct)) (bz : List V) (t : TH) (r : Right bp br bl t) (z : RightSz bp bl t) :
    Fn g 10 "_law_right" [.tup (.tx .s bp :: .tx .s br :: prL bl :: bz), thV t] σ (.bool true) σ := by
  have str : ∀ {n : Nat} (l : Oct) {x : Str} {kk : Nat} {p : Pos} {ρ : Loc} {σ : List MO} {sc : Scope}, x = S8 l → Ev g sc n (.Constant (.str x) kk p) ρ σ (.tx .s l) σ := fun l _ _ _ _ _ _ h => ev_str h
  obtain ⟨z1, z2, z3, z4, z5, z6, z7⟩ := z
  have hjl := jn_len (namesOf t.rows)
  have hrl : t.root.length ≤ t.plain.length := by rw [r.plain]; simp
  have hnl := tot_length (namesOf t.rows)
  have hsl := tot_length (namesOf t.spelled)
  have hrn : (namesOf t.rows).length = t.rows.length := List.length_map _
  have hsn : (namesOf t.spelled).length = t.spelled.length := List.length_map _
  refine fn_at ["before", "now"] (H.defs 35 _ _ _ _ _ _ _ _ _ _ rfl (by decide)) (fun _ _ _ vs h => by obtain ⟨_, _, rfl⟩ := vlen2 h; rfl) ?_
  refine ex_step (ex1_untup (y := thV t) ev_name (asg_tup (asgl_cons asg_name (asgl_cons asg_name (asgl_cons asg_name (asgl_cons asg_name (asgl_cons asg_name (asgl_cons asg_name asgl_nil)))))))) ?_
  have mem_len : ∀ {l : List (Oct × Oct)} {p : Oct × Oct}, tot (namesOf l) ≤ 100000 → p ∈ l → p.1.length + p.2.length ≤ 100000 := fun {l p} hl hp => by
    have := tot_mem (ps := namesOf l) (q := p.1 ++ p.2) (List.mem_map.mpr ⟨_, hp, rfl⟩)
    rw [List.length_append] at this
    omega
  refine ex_step (ex1_names H (l := t.rows) (by omega) (by omega) ev_name (fun p hp => ⟨_, asg_tup (asgl_cons asg_name (asgl_cons asg_name asgl_nil)), sub_of trivial, ev_bin ev_name ev_name (op_add_s (by have := mem_len z6 hp; omega))⟩)) ?_
  refine ex_if (b := false) (evb_eq (evb_or (evb_cmp ev_name (ev_bin ev_name (ev_meth (str [47] (by decide +kernel)) (evl_cons ev_name evl_nil) (txops_s.join _ _ [47] (namesOf t.rows) _ (.inl rfl) (Nat.le_trans (show tot (namesOf t.rows) ≤ 100000 from z6) (by decide)))) (op_add_s (by omega))) op_ne_tx) fun _ => evb_cmp (ev_call 7 (evl_cons ev_name evl_nil) (c_read H t.plain (by omega))) (ev_tuple (evl_cons ev_name (evl_cons ev_name evl_nil))) (op_ne (cm_res _ _ _ _) (by decide))) ?_) (fun h => nomatch h) (fun _ => ?_)
  · rw [r.read, ← r.plain]; simp
  refine ex_if (b := false) (evb_eq (evb_or (evb_cmp (ev_call 4 (xs := .tx .s t.root :: (namesOf t.rows).map (.tx .s)) ?_ (c_join H txops_s t.root (namesOf t.rows) (by omega))) ev_name op_ne_tx) fun _ => evb_cmp (ev_call 4 (evl_cons ev_name evl_nil) (c_isabs H txops_s t.plain σ)) (ev_cmp ev_name (str [] (by decide +kernel)) op_ne_tx) op_isnot_bool) ?_) (fun h => nomatch h) (fun _ => ?_)
  · rw [show (V.tx .s t.root :: (namesOf t.rows).map (V.tx .s)) = V.tx .s t.root :: ((namesOf t.rows).map (V.tx .s) ++ []) by rw [List.append_nil]]
    exact evl_cons ev_name (evl_star (.inl ev_name) (by simp; omega) evl_nil)
  · have e := r.abs
    unfold rooted at e
    rw [r.join, e]; cases t.root <;> simp
  refine ex_if (b := false) (evb_eq (evb_cmp (x₂ := .tx .s ((namesOf t.rows).getLastD [])) (ev_call 4 (evl_cons ev_name evl_nil) (c_basename H txops_s t.plain (by omega))) (ev_eq (ev_if (c := !decide (namesOf t.rows = [])) (evb_cmp ev_name (ev_list evl_nil) (op_ne (cm_txL (namesOf t.rows) []) (by decide))) (fun hne => ev_sub ev_name ev_neg1 (.lst (.inl rfl)) (op_item_last (y := .tx .s ((namesOf t.rows).getLastD [])) (.inl rfl) ?_ (by simp; omega))) (fun _ => str [] (by decide +kernel))) ?_) op_ne_tx) ?_) (fun h => nomatch h) (fun _ => ?_)
  · have hne' : namesOf t.rows ≠ [] := by simpa using hne
    rw [List.getLast?_map, List.getLastD_eq_getLast?, List.getLast?_eq_some_getLast hne']
    rfl
  · cases e : namesOf t.rows <;> simp
  · rw [r.base]; simp
  refine ex_if (b := false) (evb_eq (evb_or (evb_cmp (ev_call 7 (evl_cons ev_name evl_nil) (c_read H t.crooked (by omega))) (ev_tuple (evl_cons ev_name (evl_cons ev_name evl_nil))) (op_ne (cm_res _ _ _ _) (by decide))) fun _ => evb_cmp (ev_call 4 (evl_cons ev_name evl_nil) (c_isabs H txops_s t.crooked σ)) (ev_cmp ev_name (str [] (by decide +kernel)) op_ne_tx) op_isnot_bool) ?_) (fun h => nomatch h) (fun _ => ?_)
  · have e := r.absC
    unfold rooted at e
    rw [r.readC, e]; cases t.root <;> simp
  refine ex_if (b := false) (evb_eq (evb_cmp (ev_call 5 (evl_cons ev_name evl_nil) (c_climbed H t.crooked (by omega))) (ev_tuple (evl_cons ev_name (evl_cons (ev_names H (l := t.spelled) (by omega) (by omega) ev_name (fun p hp => ⟨_, asg_tup (asgl_cons asg_name (asgl_cons asg_name asgl_nil)), sub_of trivial, ev_bin ev_name ev_name (op_add_s (by have := mem_len z7 hp; omega))⟩)) evl_nil))) (op_ne (cm_clm _ _ _ _) (by decide))) ?_) (fun h => nomatch h) (fun _ => ?_)
  · rw [r.climb]; simp
  have hcm := c_lcommon H (σ := σ) bp br t.plain t.root bl t.rows bz [.tx .s t.crooked, .tx .s t.ahead, prL t.spelled] z2 (by show tot (namesOf bl) ≤ _; omega)
  have hz : tot [bp, t.plain] ≤ 1000000 := by rw [tot_cons, tot_cons]; show _ + 1 + (_ + 1 + 0) ≤ _; omega
  have hcomm := r.comm
  by_cases hr : rooted bp = rooted t.plain
  · rw [if_pos hr] at hcomm
    refine ex_try (ex_step (ex1_assign (ev_call 8 (evl_cons (ev_list (evl_cons (ev_sub ev_name ev_int .tup (op_item_tup (y := .tx .s bp) (by decide) (by decide) rfl)) (evl_cons ev_name evl_nil))) evl_nil) (c_common H txops_s txcmp_s bp [t.plain] (rooted bp) (fun q hq => by
      rcases List.mem_cons.mp hq with rfl | hq
      · rfl
      · rw [List.mem_singleton.mp hq]; exact hr.symm) hz))) (ex_nil ?_))
    show Ex g _ _ _ _ _ _
    rw [← hcomm] at hcm
    exact ex_ret (ev_cmp ev_name (ev_call 2 (evl_cons ev_name (evl_cons ev_name evl_nil)) hcm) (op_eq (cm_opt (some (cpOf (rooted bp) bp [t.plain]))) (by decide))) ret_end
  · rw [if_neg hr] at hcomm
    refine ex_tryX (evX_call 8 (evl_cons (ev_list (evl_cons (ev_sub ev_name ev_int .tup (op_item_tup (y := .tx .s bp) (by decide) (by decide) rfl)) (evl_cons ev_name evl_nil))) evl_nil) (c_commonX H txops_s bp [t.plain] ?_ ?_ hz)) ?_
    · cases e : rooted bp with
      | true => exact ⟨bp, List.mem_cons_self, e⟩
      | false => exact ⟨t.plain, by simp, by rw [e] at hr; simpa using hr⟩
    · cases e : rooted bp with
      | false => exact ⟨bp, List.mem_cons_self, e⟩
      | true => exact ⟨t.plain, by simp, by rw [e] at hr; simpa using hr⟩
    · rw [← hcomm] at hcm
      exact ex_ret (ev_cmp ev_name (ev_call 2 (evl_cons ev_name (evl_cons ev_name evl_nil)) hcm) (op_eq (cm_opt none) (by decide))) ret_end
end
end Mine
end
section
open PySem PySem.W PyProof.Rows PySem.Calls PySem.SeqAt
set_option Elab.async false
set_option linter.unusedVariables false
set_option maxRecDepth 100000
namespace Mine
-- climbing, step by step
theorem stp_fuel (d f : Oct → Oct) (hl : ∀ p, d p ≠ p → (f p).length < p.length) : ∀ (n : Nat) (p : Oct), p.length ≤ n → stp d f n p = stp d f p.length p
  | 0, p, h => by have : p.length = 0 := by omega
                  rw [this]
  | n + 1, p, h => by
    by_cases hp : d p = p
    · have e1 : ∀ k, stp d f k p = 0 := fun k => by cases k <;> simp [stp, hp]
      rw [e1, e1]
    · have hlt := hl p hp
      obtain ⟨k, hk⟩ : ∃ k, p.length = k + 1 := ⟨p.length - 1, by omega⟩
      rw [hk]
      unfold stp
      rw [if_neg hp, if_neg hp, stp_fuel d f hl n (f p) (by omega), ← stp_fuel d f hl k (f p) (by omega)]
termination_by n => n
decreasing_by all_goals omega
theorem stp_stop (d f : Oct → Oct) {p : Oct} (hp : d p = p) : stp d f p.length p = 0 := by
  cases h : p.length with
  | zero => rfl
  | succ n => unfold stp; rw [if_pos hp]
theorem stp_go (d f : Oct → Oct) (hl : ∀ p, d p ≠ p → (f p).length < p.length) {p : Oct} (hp : d p ≠ p) : stp d f p.length p = stp d f (f p).length (f p) + 1 := by
  have hlt := hl p hp
  obtain ⟨k, hk⟩ : ∃ k, p.length = k + 1 := ⟨p.length - 1, by omega⟩
  rw [hk]
  show (if d p = p then 0 else stp d f k (f p) + 1) = _
  rw [if_neg hp, stp_fuel d f hl k (f p) (by omega)]
theorem clN_succ (p : Oct) : ∀ i, clN p (i + 1) = clN (dn p) i ++ [bn p]
  | 0 => rfl
  | i + 1 => by
    show bn (clP dn p (i + 1)) :: clN p (i + 1) = (bn (clP dn (dn p) i) :: clN (dn p) i) ++ [bn p]
    rw [clP_succ, clN_succ p i]; rfl
theorem rbR_succ (p : Oct) : ∀ i, rbR p (i + 1) = rbR (rbS p) i ++ [(bn (sx p).1, (sx p).2)]
  | 0 => rfl
  | i + 1 => by
    show (bn (sx (clP rbS p (i + 1))).1, (sx (clP rbS p (i + 1))).2) :: rbR p (i + 1) = ((bn (sx (clP rbS (rbS p) i)).1, (sx (clP rbS (rbS p) i)).2) :: rbR (rbS p) i) ++ [(bn (sx p).1, (sx p).2)]
    rw [clP_succ, rbR_succ p i]; rfl
theorem climb_stop {p : Oct} (hp : dn p = p) : climbOf p = (p, []) := by
  unfold climbOf climbN; rw [stp_stop dn dn hp]; rfl
theorem climb_go {p : Oct} (hp : dn p ≠ p) : climbOf p = ((climbOf (dn p)).1, (climbOf (dn p)).2 ++ [bn p]) := by
  unfold climbOf climbN; rw [stp_go dn dn dn_lt hp, clN_succ, ← clP_succ]
theorem read_stop {p : Oct} (hp : dn p = p) : readOf p = (p, []) := by
  unfold readOf rbN; rw [stp_stop dn rbS hp]; rfl
theorem read_go {p : Oct} (hp : dn p ≠ p) : readOf p = ((readOf (rbS p)).1, (readOf (rbS p)).2 ++ [(bn (sx p).1, (sx p).2)]) := by
  unfold readOf rbN; rw [stp_go dn rbS rbS_lt hp, rbR_succ, ← clP_succ]

-- paths spelled
noncomputable def sl (m : Nat) : Oct := List.replicate m 47
noncomputable def ssp : List (Oct × Nat) → Oct
  | [] => []
  | x :: l => x.1 ++ sl x.2 ++ ssp l
noncomputable def WN (n : Oct) : Prop := n ≠ [] ∧ 47 ∉ n
structure WF (l : List (Oct × Nat)) : Prop where
  wn : ∀ x ∈ l, WN x.1
  ge : ∀ x ∈ l.dropLast, 1 ≤ x.2
noncomputable def nms (l : List (Oct × Nat)) : List Oct := l.map (·.1)
theorem ssp_append : ∀ (a b : List (Oct × Nat)), ssp (a ++ b) = ssp a ++ ssp b
  | [], b => rfl
  | x :: a, b => by show x.1 ++ sl x.2 ++ ssp (a ++ b) = _; rw [ssp_append a b]; simp [ssp]
theorem ssp_one (n : Oct) (k : Nat) : ssp [(n, k)] = n ++ sl k := by simp [ssp]
theorem snoc_cases {α : Type} (l : List α) : l = [] ∨ ∃ l' x, l = l' ++ [x] := by
  rcases List.eq_nil_or_concat l with h | ⟨l', x, h⟩
  · exact .inl h
  · exact .inr ⟨l', x, by simpa using h⟩
/-- nothing, or a slash at the end -/
noncomputable def EndS (p : Oct) : Prop := p = [] ∨ ∃ q, p = q ++ [47]
theorem sl_succ (m : Nat) : sl (m + 1) = sl m ++ [47] := by unfold sl; rw [List.replicate_succ']
theorem sl_mem {m : Nat} {c : UInt8} (h : c ∈ sl m) : c = 47 := List.eq_of_mem_replicate h
theorem endS_sl (m : Nat) : EndS (sl m) := by
  cases m with
  | zero => exact .inl rfl
  | succ m => exact .inr ⟨sl m, sl_succ m⟩
theorem endS_ssp (m : Nat) (l : List (Oct × Nat)) (h : ∀ x ∈ l, 1 ≤ x.2) : EndS (sl m ++ ssp l) := by
  rcases snoc_cases l with rfl | ⟨l', ⟨n, k⟩, rfl⟩
  · rw [show ssp [] = ([] : Oct) from rfl, List.append_nil]; exact endS_sl m
  · have hk := h (n, k) (by simp)
    obtain ⟨j, rfl⟩ : ∃ j, k = j + 1 := ⟨k - 1, by simp at hk; omega⟩
    exact .inr ⟨sl m ++ ssp l' ++ n ++ sl j, by rw [ssp_append, ssp_one, sl_succ]; simp⟩
theorem aft_pre {pre n : Oct} (he : EndS pre) (hn : 47 ∉ n) : aft 47 (pre ++ n) = pre.length := by
  rcases he with rfl | ⟨q, rfl⟩
  · exact aft_none 47 n hn
  · rw [List.append_assoc, List.singleton_append, aft_at 47 q n hn]; simp
theorem bn_pre {pre n : Oct} (he : EndS pre) (hn : 47 ∉ n) : bn (pre ++ n) = n := by
  unfold bn; rw [aft_pre he hn]; simp
theorem dn_pre {pre n : Oct} (he : EndS pre) (hn : 47 ∉ n) : dn (pre ++ n) = hd' pre := by
  unfold dn; rw [aft_pre he hn]; simp
theorem run_iff (p : Oct) : isRun p = true ↔ ∀ c ∈ p, c = 47 := by
  unfold isRun
  rw [rep_one, beq_iff_eq]
  exact List.eq_replicate_iff.trans ⟨fun h => h.2, fun h => ⟨rfl, h⟩⟩
theorem hd_sl (m : Nat) : hd' (sl m) = sl m := by
  unfold hd'
  have : isRun (sl m) = true := (run_iff _).mpr fun c h => sl_mem h
  rw [this]; simp
theorem rst_sl {x : Oct} (h : ∀ q, x ≠ q ++ [47]) : ∀ k, rst 47 (x ++ sl k) = x
  | 0 => by
    rw [show sl 0 = ([] : Oct) from rfl, List.append_nil]
    rcases snoc_cases x with rfl | ⟨q, c, rfl⟩
    · rfl
    · have hc : c ≠ 47 := fun e => h q (by rw [e])
      unfold rst
      rw [List.reverse_append, List.reverse_singleton, List.singleton_append, List.dropWhile_cons_of_neg (by simpa using hc)]
      simp
  | k + 1 => by
    have ih := rst_sl h k
    rw [sl_succ, ← List.append_assoc]
    unfold rst at ih ⊢
    rw [List.reverse_append, List.reverse_singleton, List.singleton_append, List.dropWhile_cons_of_pos (by simp)]
    exact ih
theorem WN.noend {n : Oct} (h : WN n) (x : Oct) : ∀ q, x ++ n ≠ q ++ [47] := fun q e => by
  rcases snoc_cases n with rfl | ⟨n', c, rfl⟩
  · exact h.1 rfl
  · rw [← List.append_assoc] at e
    have := List.append_inj_right' e rfl
    have hc : c = 47 := by simpa using this
    exact h.2 (by simp [hc])
theorem hd_name {n : Oct} (h : WN n) (x : Oct) (k : Nat) : hd' (x ++ n ++ sl k) = x ++ n := by
  unfold hd'
  have h1 : isRun (x ++ n ++ sl k) = false := by
    rw [← Bool.not_eq_true, run_iff]
    intro hh
    obtain ⟨c, hc⟩ := List.exists_mem_of_ne_nil n h.1
    have := hh c (by simp [hc])
    exact h.2 (this ▸ hc)
  have h2 : (x ++ n ++ sl k).isEmpty = false := by
    cases hq : x ++ n ++ sl k with
    | nil => simp at hq; exact absurd hq.2.1 h.1
    | cons => rfl
  rw [h1, h2]
  simp only [Bool.not_false, Bool.and_self, if_true]
  exact rst_sl (h.noend x) k
/-- the last run of slashes, dropped -/
noncomputable def zr (l : List (Oct × Nat)) : List (Oct × Nat) := match l.getLast? with
  | none => []
  | some x => l.dropLast ++ [(x.1, 0)]
theorem zr_snoc (l : List (Oct × Nat)) (n : Oct) (k : Nat) : zr (l ++ [(n, k)]) = l ++ [(n, 0)] := by simp [zr]
theorem hd_ssp (m : Nat) (l : List (Oct × Nat)) (h : ∀ x ∈ l, WN x.1) : hd' (sl m ++ ssp l) = sl m ++ ssp (zr l) := by
  rcases snoc_cases l with rfl | ⟨l', ⟨n, k⟩, rfl⟩
  · rw [show ssp [] = ([] : Oct) from rfl, show ssp (zr []) = ([] : Oct) from rfl, List.append_nil]; exact hd_sl m
  · rw [zr_snoc, ssp_append, ssp_append, ssp_one, ssp_one, ← List.append_assoc, ← List.append_assoc, show sl 0 = ([] : Oct) from rfl, List.append_nil]
    have := hd_name (h (n, k) (by simp)) (sl m ++ ssp l') k
    rw [List.append_assoc] at this ⊢
    simpa [List.append_assoc] using this
end Mine
end
section
open PySem PySem.W PyProof.Rows PySem.Calls PySem.SeqAt
set_option Elab.async false
set_option linter.unusedVariables false
set_option maxRecDepth 100000
namespace Mine
theorem dn_sl (m : Nat) : dn (sl m) = sl m := by
  have := dn_pre (n := []) (endS_sl m) (by simp)
  rw [List.append_nil] at this
  rw [this]; exact hd_sl m
theorem WF.init {l : List (Oct × Nat)} {x : Oct × Nat} (h : WF (l ++ [x])) : WF l ∧ (∀ y ∈ l, 1 ≤ y.2) ∧ WN x.1 := by
  have hg : ∀ y ∈ l, 1 ≤ y.2 := fun y hy => h.ge y (by rw [List.dropLast_concat]; exact hy)
  exact ⟨⟨fun y hy => h.wn y (by simp [hy]), fun y hy => hg y (List.dropLast_subset l hy)⟩, hg, h.wn x (by simp)⟩
theorem nms_snoc (l : List (Oct × Nat)) (x : Oct × Nat) : nms (l ++ [x]) = nms l ++ [x.1] := by simp [nms]
/-- one name up -/
theorem up_name {m : Nat} {l : List (Oct × Nat)} {n : Oct} {k : Nat} (h : WF (l ++ [(n, k)])) :
    dn (sl m ++ ssp (zr (l ++ [(n, k)]))) = sl m ++ ssp (zr l) ∧ bn (sl m ++ ssp (zr (l ++ [(n, k)]))) = n ∧ dn (sl m ++ ssp (zr (l ++ [(n, k)]))) ≠ sl m ++ ssp (zr (l ++ [(n, k)])) := by
  obtain ⟨h1, h2, h3⟩ := h.init
  have he := endS_ssp m l h2
  have e : sl m ++ ssp (zr (l ++ [(n, k)])) = (sl m ++ ssp l) ++ n := by
    rw [zr_snoc, ssp_append, ssp_one, show sl 0 = ([] : Oct) from rfl, List.append_nil, List.append_assoc]
  have hd : dn (sl m ++ ssp (zr (l ++ [(n, k)]))) = sl m ++ ssp (zr l) := by
    rw [e, dn_pre he h3.2]; exact hd_ssp m l h1.wn
  refine ⟨hd, by rw [e]; exact bn_pre he h3.2, fun hh => ?_⟩
  have hp := dn_prefix (sl m ++ ssp l)
  have l1 : (hd' (sl m ++ ssp l)).length ≤ (sl m ++ ssp l).length := by
    unfold hd'; split
    · exact rst_len _ _
    · exact Nat.le_refl _
  rw [hd_ssp m l h1.wn, ← hd, hh, e] at l1
  rw [List.length_append] at l1
  have : n.length ≠ 0 := fun z => h3.1 (List.length_eq_zero_iff.mp z)
  omega
/-- the slashes at the end -/
theorem up_slash {m : Nat} {l : List (Oct × Nat)} {n : Oct} {k : Nat} (h : WF (l ++ [(n, k + 1)])) :
    dn (sl m ++ ssp (l ++ [(n, k + 1)])) = sl m ++ ssp (zr (l ++ [(n, k + 1)])) ∧ bn (sl m ++ ssp (l ++ [(n, k + 1)])) = [] ∧ dn (sl m ++ ssp (l ++ [(n, k + 1)])) ≠ sl m ++ ssp (l ++ [(n, k + 1)]) ∧ EndS (sl m ++ ssp (l ++ [(n, k + 1)])) := by
  obtain ⟨h1, h2, h3⟩ := h.init
  have hg : ∀ x ∈ l ++ [(n, k + 1)], 1 ≤ x.2 := fun x hx => by
    rcases List.mem_append.mp hx with hx | hx
    · exact h2 x hx
    · rw [List.mem_singleton.mp hx]; exact Nat.succ_pos _
  have he := endS_ssp m _ hg
  have e1 := dn_pre (n := []) he (by simp)
  have e2 := bn_pre (n := []) he (by simp)
  rw [List.append_nil] at e1 e2
  have hd : dn (sl m ++ ssp (l ++ [(n, k + 1)])) = sl m ++ ssp (zr (l ++ [(n, k + 1)])) := by rw [e1]; exact hd_ssp m _ h.wn
  refine ⟨hd, e2, fun hh => ?_, he⟩
  rw [hd] at hh
  have := congrArg List.length hh
  rw [zr_snoc, ssp_append, ssp_append, ssp_one, ssp_one] at this
  simp [sl] at this
theorem climb_zr (m : Nat) : ∀ (N : Nat) (l : List (Oct × Nat)), l.length = N → WF l → climbOf (sl m ++ ssp (zr l)) = (sl m, nms l)
  | 0, l, hN, h => by
    have : l = [] := List.length_eq_zero_iff.mp hN
    subst this
    rw [show ssp (zr []) = ([] : Oct) from rfl, List.append_nil]; exact climb_stop (dn_sl m)
  | N + 1, l, hN, h => by
    rcases snoc_cases l with rfl | ⟨l', ⟨n, k⟩, rfl⟩
    · simp at hN
    · obtain ⟨u1, u2, u3⟩ := up_name (m := m) h
      rw [climb_go u3, u1, u2, climb_zr m N l' (by simpa using hN) h.init.1, nms_snoc]
theorem climb_ssp (m : Nat) (l : List (Oct × Nat)) (n : Oct) (k : Nat) (h : WF (l ++ [(n, k + 1)])) : climbOf (sl m ++ ssp (l ++ [(n, k + 1)])) = (sl m, nms (l ++ [(n, k + 1)]) ++ [[]]) := by
  obtain ⟨u1, u2, u3, _⟩ := up_slash (m := m) h
  rw [climb_go u3, u1, u2, climb_zr m _ _ rfl h]
-- endings
theorem aft_app_in {c : UInt8} (pre : Oct) {n : Oct} (h : c ∈ n) : aft c (pre ++ n) = pre.length + aft c n := by
  rcases aft_spec c n with ⟨h1, _⟩ | ⟨a, b, rfl, hb, e⟩
  · exact absurd h h1
  · rw [e, ← List.append_assoc, aft_at c _ b hb]; simp; omega
theorem aft_app_out {c : UInt8} (pre : Oct) {n : Oct} (h : c ∉ n) : aft c (pre ++ n) ≤ pre.length := by
  rcases aft_spec c pre with ⟨h1, _⟩ | ⟨a, b, rfl, hb, e⟩
  · rw [aft_none c _ (by simp [h1, h])]; exact Nat.zero_le _
  · rw [List.append_assoc, List.cons_append, aft_at c a (b ++ n) (by simp [hb, h])]; simp
theorem sx_pre {pre n : Oct} (he : EndS pre) (hn : 47 ∉ n) : sx (pre ++ n) = (pre ++ (sx n).1, (sx n).2) := by
  have h47 := aft_pre he hn
  have h0 : aft 47 n = 0 := aft_none 47 n hn
  unfold sx
  rw [h47, h0]
  by_cases h : (46 : UInt8) ∈ n
  · have e := aft_app_in pre h
    have hpos : 0 < aft 46 n := by
      rcases aft_spec 46 n with ⟨h1, _⟩ | ⟨a, b, _, _, e⟩
      · exact absurd h h1
      · omega
    rw [e]
    have e1 : pre.length + aft 46 n - 1 = pre.length + (aft 46 n - 1) := by omega
    rw [e1, List.take_length_add_append, List.drop_length_add_append]
    have c1 : (decide (pre.length < pre.length + aft 46 n) && ((pre ++ n.take (aft 46 n - 1)).drop pre.length).any (· != 46)) = (decide (0 < aft 46 n) && ((n.take (aft 46 n - 1)).drop 0).any (· != 46)) := by
      rw [List.drop_left, List.drop_zero]
      have : decide (pre.length < pre.length + aft 46 n) = decide (0 < aft 46 n) := by simp
      rw [this]
    rw [c1]
    split <;> rfl
  · have e := aft_app_out pre h
    have e2 := aft_none 46 n h
    rw [if_neg (by simp; omega), if_neg (by rw [e2]; simp)]
/-- a name as its stem and its ending -/
structure GN (q : Oct × Oct) : Prop where
  wn : WN (q.1 ++ q.2)
  sx : sx (q.1 ++ q.2) = q
theorem sx_nil : sx [] = ([], []) := by decide
theorem read_zr (m : Nat) : ∀ (N : Nat) (l : List (Oct × Nat)) (R : List (Oct × Oct)), l.length = N → WF l → nms l = namesOf R → (∀ q ∈ R, GN q) → readOf (sl m ++ ssp (zr l)) = (sl m, R)
  | 0, l, R, hN, h, hR, _ => by
    have : l = [] := List.length_eq_zero_iff.mp hN
    subst this
    have : R = [] := by
      have := congrArg List.length hR
      simp [nms, namesOf] at this
      exact List.length_eq_zero_iff.mp this.symm
    subst this
    rw [show ssp (zr []) = ([] : Oct) from rfl, List.append_nil]; exact read_stop (dn_sl m)
  | N + 1, l, R, hN, h, hR, hg => by
    rcases snoc_cases l with rfl | ⟨l', ⟨n, k⟩, rfl⟩
    · simp at hN
    · rcases snoc_cases R with rfl | ⟨R', q, rfl⟩
      · have := congrArg List.length hR
        simp [nms, namesOf] at this
      · rw [nms_snoc] at hR
        have hR' : nms l' ++ [n] = namesOf R' ++ [q.1 ++ q.2] := by rw [hR]; simp [namesOf]
        have e1 := List.append_inj_left' hR' rfl
        have e2 : n = q.1 ++ q.2 := by simpa using List.append_inj_right' hR' rfl
        obtain ⟨u1, u2, u3⟩ := up_name (m := m) h
        obtain ⟨h1, h2, h3⟩ := h.init
        have he := endS_ssp m l' h2
        have hq := hg q (by simp)
        have ep : sl m ++ ssp (zr (l' ++ [(n, k)])) = (sl m ++ ssp l') ++ n := by
          rw [zr_snoc, ssp_append, ssp_one, show sl 0 = ([] : Oct) from rfl, List.append_nil, List.append_assoc]
        have hs : sx (sl m ++ ssp (zr (l' ++ [(n, k)]))) = (sl m ++ ssp l' ++ q.1, q.2) := by
          rw [ep, sx_pre he h3.2, e2, hq.sx]
        have h47 : 47 ∉ q.1 := fun z => h3.2 (by rw [e2]; simp [z])
        rw [read_go u3]
        unfold rbS
        rw [hs]
        dsimp only
        rw [dn_pre he h47, bn_pre he h47, hd_ssp m l' h1.wn, read_zr m N l' R' (by simpa using hN) h1 e1 (fun x hx => hg x (by simp [hx]))]
theorem read_ssp (m : Nat) (l : List (Oct × Nat)) (n : Oct) (k : Nat) (R : List (Oct × Oct)) (h : WF (l ++ [(n, k + 1)])) (hR : nms (l ++ [(n, k + 1)]) = namesOf R) (hg : ∀ q ∈ R, GN q) : readOf (sl m ++ ssp (l ++ [(n, k + 1)])) = (sl m, R ++ [([], [])]) := by
  obtain ⟨u1, u2, u3, he⟩ := up_slash (m := m) h
  have hs := sx_pre (n := []) he (by simp)
  rw [List.append_nil, sx_nil, List.append_nil] at hs
  rw [read_go u3]
  unfold rbS
  rw [hs]
  dsimp only
  rw [u1, u2, read_zr m _ _ R rfl h hR hg]
end Mine
end
section
open PySem PySem.W PyProof.Rows PySem.Calls PySem.SeqAt
set_option Elab.async false
set_option linter.unusedVariables false
set_option maxRecDepth 100000
namespace Mine
-- paths cut at slashes
theorem spl_sl : ∀ (m : Nat) (p : Oct), (spl 47 (sl m ++ p)).filter (fun c => !c.isEmpty) = (spl 47 p).filter (fun c => !c.isEmpty)
  | 0, p => rfl
  | m + 1, p => by
    show (spl 47 (47 :: (sl m ++ p))).filter _ = _
    rw [spl, if_pos rfl, List.filter_cons_of_neg (by simp)]
    exact spl_sl m p
theorem spl_name {n : Oct} (h : WN n) (k : Nat) (p : Oct) (hk : 1 ≤ k ∨ p = []) : (spl 47 (n ++ sl k ++ p)).filter (fun c => !c.isEmpty) = n :: (spl 47 p).filter (fun c => !c.isEmpty) := by
  have hne : (!n.isEmpty) = true := by
    cases hn : n with
    | nil => exact absurd hn h.1
    | cons => rfl
  cases k with
  | zero =>
    rcases hk with hk | rfl
    · omega
    · rw [show sl 0 = ([] : Oct) from rfl, List.append_nil, List.append_nil, spl_free_only 47 n h.2, List.filter_cons_of_pos (by exact hne)]
      rfl
  | succ k =>
    have e : n ++ sl (k + 1) ++ p = n ++ 47 :: (sl k ++ p) := by
      show n ++ (47 :: sl k) ++ p = _
      simp
    rw [e, spl_append 47 n _ h.2, List.filter_cons_of_pos (by exact hne), spl_sl]
theorem WF.tail {x : Oct × Nat} {l : List (Oct × Nat)} (h : WF (x :: l)) : WF l ∧ WN x.1 ∧ (1 ≤ x.2 ∨ l = []) := by
  refine ⟨⟨fun y hy => h.wn y (List.mem_cons_of_mem _ hy), fun y hy => ?_⟩, h.wn x List.mem_cons_self, ?_⟩
  · cases l with
    | nil => simp at hy
    | cons z l => exact h.ge y (by rw [List.dropLast_cons_of_ne_nil (by simp)]; exact List.mem_cons_of_mem _ hy)
  · cases l with
    | nil => exact .inr rfl
    | cons z l => exact .inl (h.ge x (by rw [List.dropLast_cons_of_ne_nil (by simp)]; exact List.mem_cons_self))
theorem spl_ssp : ∀ (l : List (Oct × Nat)), WF l → (spl 47 (ssp l)).filter (fun c => !c.isEmpty) = nms l
  | [], _ => rfl
  | x :: l, h => by
    obtain ⟨h1, h2, h3⟩ := h.tail
    show (spl 47 (x.1 ++ sl x.2 ++ ssp l)).filter _ = x.1 :: nms l
    rw [spl_name h2 x.2 (ssp l) (h3.imp id fun e => by rw [e]; rfl), spl_ssp l h1]
theorem nps_nil (r : Bool) (acc : List Oct) : npS r acc [] = acc := by simp [npS]
theorem nps_filter (r : Bool) : ∀ (cs acc : List Oct), (cs.filter fun c => !c.isEmpty).foldl (npS r) acc = cs.foldl (npS r) acc
  | [], acc => rfl
  | c :: cs, acc => by
    rw [List.foldl_cons]
    cases c with
    | nil => rw [List.filter_cons_of_neg (by simp), nps_nil]; exact nps_filter r cs acc
    | cons x c => rw [List.filter_cons_of_pos (by simp), List.foldl_cons]; exact nps_filter r cs _
theorem ssp_head {l : List (Oct × Nat)} (h : WF l) : ∀ r, ssp l ≠ 47 :: r := fun r e => by
  cases l with
  | nil => cases e
  | cons x l =>
    obtain ⟨_, h2, _⟩ := h.tail
    cases hx : x.1 with
    | nil => exact h2.1 hx
    | cons c n =>
      have : ssp (x :: l) = c :: (n ++ sl x.2 ++ ssp l) := by show x.1 ++ sl x.2 ++ ssp l = _; rw [hx]; simp
      rw [this] at e
      injection e with e1 _
      exact h2.2 (by rw [hx, e1]; exact List.mem_cons_self)
/-- what a front makes the root -/
noncomputable def rootOf (m : Nat) : Oct := if m = 0 then [] else if m = 2 then [47, 47] else [47]
theorem srt_ssp (m : Nat) {l : List (Oct × Nat)} (h : WF l) : ∃ m', srt (sl m ++ ssp l) = (rootOf m, sl m' ++ ssp l) := by
  have hh := ssp_head h
  generalize ssp l = p at hh
  match m with
  | 0 =>
    refine ⟨0, ?_⟩
    show srt p = ([], p)
    unfold srt
    rw [if_pos]
    cases p with
    | nil => rfl
    | cons c p =>
      have : c ≠ 47 := fun e => hh p (by rw [e])
      simpa [bne_iff_ne] using this
  | 1 =>
    refine ⟨0, ?_⟩
    show srt (47 :: p) = ([47], p)
    unfold srt
    rw [if_neg (by simp), if_pos]
    · rfl
    · cases p with
      | nil => rfl
      | cons c p =>
        have : c ≠ 47 := fun e => hh p (by rw [e])
        simp [bne_iff_ne, this]
  | 2 =>
    refine ⟨0, ?_⟩
    show srt (47 :: 47 :: p) = ([47, 47], p)
    unfold srt
    rw [if_neg (by simp), if_neg]
    · rfl
    · cases p with
      | nil => simp
      | cons c p =>
        have : c ≠ 47 := fun e => hh p (by rw [e])
        simp [this]
  | m + 3 =>
    refine ⟨m + 2, ?_⟩
    have : rootOf (m + 3) = [47] := by unfold rootOf; rw [if_neg (by omega), if_neg (by omega)]
    rw [this]
    show srt (47 :: 47 :: 47 :: (sl m ++ p)) = ([47], 47 :: 47 :: (sl m ++ p))
    unfold srt
    rw [if_neg (by simp), if_pos (by simp)]
    rfl
theorem npC_ssp (m : Nat) {l : List (Oct × Nat)} (h : WF l) : npC (sl m ++ ssp l) = (nms l).foldl (npS (decide (m ≠ 0))) [] := by
  obtain ⟨m', e⟩ := srt_ssp m h
  unfold npC
  rw [e]
  have hr : (!(rootOf m).isEmpty) = decide (m ≠ 0) := by
    unfold rootOf
    by_cases h0 : m = 0
    · simp [h0]
    · rw [if_neg h0]; by_cases h2 : m = 2 <;> simp [h2, h0]
  rw [hr]
  show (spl 47 (sl m' ++ ssp l)).foldl _ [] = _
  rw [← nps_filter, spl_sl, spl_ssp l h]
theorem np_ssp (m : Nat) {l : List (Oct × Nat)} (h : WF l) : np (sl m ++ ssp l) = if rootOf m ++ jn [47] ((nms l).foldl (npS (decide (m ≠ 0))) []) = [] then [46] else rootOf m ++ jn [47] ((nms l).foldl (npS (decide (m ≠ 0))) []) := by
  unfold np
  rw [npC_ssp m h]
  obtain ⟨m', e⟩ := srt_ssp m h
  rw [e]
  dsimp only
  by_cases h0 : sl m ++ ssp l = []
  · obtain ⟨h1, h2⟩ := List.append_eq_nil_iff.mp h0
    have hm : m = 0 := by cases m with | zero => rfl | succ m => cases h1
    have hl : l = [] := by
      cases l with
      | nil => rfl
      | cons x l =>
        obtain ⟨_, hw, _⟩ := h.tail
        have : x.1 ++ sl x.2 ++ ssp l = [] := h2
        simp at this
        exact absurd this.1 hw.1
    subst hm hl
    rfl
  · rw [if_neg (by simpa using h0)]
    simp only [List.isEmpty_iff]
end Mine
end
section
open PySem PySem.W PyProof.Rows PySem.Calls PySem.SeqAt
set_option Elab.async false
set_option linter.unusedVariables false
set_option maxRecDepth 100000
namespace Mine
/-- a path that spells names after slashes -/
noncomputable def Spl (m : Nat) (L : List Oct) (p : Oct) : Prop := ∃ l, WF l ∧ nms l = L ∧ p = sl m ++ ssp l
theorem endS_ge {m : Nat} {l : List (Oct × Nat)} (h : WF l) (he : EndS (sl m ++ ssp l)) : ∀ x ∈ l, 1 ≤ x.2 := by
  rcases snoc_cases l with rfl | ⟨l', ⟨n, k⟩, rfl⟩
  · intro x hx; simp at hx
  · obtain ⟨h1, h2, h3⟩ := h.init
    intro x hx
    rcases List.mem_append.mp hx with hx | hx
    · exact h2 x hx
    · rw [List.mem_singleton.mp hx]
      cases k with
      | succ k => exact Nat.succ_pos _
      | zero =>
        exfalso
        have e : sl m ++ ssp (l' ++ [(n, 0)]) = (sl m ++ ssp l') ++ n := by
          rw [ssp_append, ssp_one, show sl 0 = ([] : Oct) from rfl, List.append_nil, List.append_assoc]
        rw [e] at he
        rcases he with he | ⟨q, he⟩
        · exact h3.1 (List.append_eq_nil_iff.mp he).2
        · exact h3.noend _ q he
theorem WF.append {l l' : List (Oct × Nat)} (h : WF l) (hg : ∀ x ∈ l, 1 ≤ x.2) (h' : WF l') : WF (l ++ l') := by
  refine ⟨fun x hx => (List.mem_append.mp hx).elim (h.wn x) (h'.wn x), fun x hx => ?_⟩
  cases l' with
  | nil => rw [List.append_nil] at hx; exact h.ge x hx
  | cons y l' =>
    rw [List.dropLast_append_of_ne_nil (by simp)] at hx
    exact (List.mem_append.mp hx).elim (hg x) (h'.ge x)
theorem nms_append (a b : List (Oct × Nat)) : nms (a ++ b) = nms a ++ nms b := by simp [nms]
theorem Spl.concat {m : Nat} {L L' : List Oct} {p c : Oct} (h : Spl m L p) (he : EndS p) (h' : Spl 0 L' c) : Spl m (L ++ L') (p ++ c) := by
  obtain ⟨l, h1, rfl, rfl⟩ := h
  obtain ⟨l', h2, rfl, rfl⟩ := h'
  refine ⟨l ++ l', h1.append (endS_ge h1 he) h2, nms_append l l', ?_⟩
  rw [ssp_append, show sl 0 = ([] : Oct) from rfl, List.nil_append, List.append_assoc]
theorem Spl.slash {m : Nat} {L : List Oct} {p : Oct} (h : Spl m L p) (hL : L ≠ []) : Spl m L (p ++ [47]) := by
  obtain ⟨l, h1, rfl, rfl⟩ := h
  rcases snoc_cases l with rfl | ⟨l', ⟨n, k⟩, rfl⟩
  · exact absurd rfl hL
  · obtain ⟨i1, i2, i3⟩ := h1.init
    refine ⟨l' ++ [(n, k + 1)], i1.append i2 ⟨fun x hx => by rw [List.mem_singleton.mp hx]; exact i3, fun x hx => by simp at hx⟩, by rw [nms_snoc, nms_snoc], ?_⟩
    rw [ssp_append, ssp_append, ssp_one, ssp_one, sl_succ]; simp
theorem Spl.ne {m : Nat} {L : List Oct} {p : Oct} (h : Spl m L p) (hn : ¬ EndS p) : L ≠ [] := by
  rintro rfl
  obtain ⟨l, h1, h2, rfl⟩ := h
  have : l = [] := List.map_eq_nil_iff.mp h2
  subst this
  exact hn (endS_ssp m [] (fun x hx => by simp at hx))
theorem endS_last (p : Oct) : EndS p ↔ p = [] ∨ p.getLast? = some 47 := by
  unfold EndS
  rw [List.getLast?_eq_some_iff]
theorem jo_eq (p : Oct) {c : Oct} (hc : ∀ r, c ≠ 47 :: r) : (EndS p → jo p c = p ++ c) ∧ (¬ EndS p → jo p c = p ++ 47 :: c) := by
  have hh : (c.head? == some 47) = false := by
    cases c with
    | nil => rfl
    | cons x c =>
      have : x ≠ 47 := fun e => hc c (by rw [e])
      simpa using this
  unfold jo
  rw [hh, Bool.false_or]
  cases p with
  | nil => exact ⟨fun _ => rfl, fun h => absurd (.inl rfl) h⟩
  | cons x p =>
    rw [endS_last, if_neg (by simp)]
    constructor
    · rintro (h | h)
      · cases h
      · rw [if_pos (by rw [h]; rfl)]
    · intro h
      rw [if_neg (by intro e; exact h (.inr (by simpa using e)))]; rfl
theorem Spl.head {L : List Oct} {c : Oct} (h : Spl 0 L c) : ∀ r, c ≠ 47 :: r := by
  obtain ⟨l, h1, _, rfl⟩ := h
  exact ssp_head h1
theorem Spl.join {m : Nat} {L L' : List Oct} {p c : Oct} (h : Spl m L p) (h' : Spl 0 L' c) : Spl m (L ++ L') (jo p c) := by
  by_cases he : EndS p
  · rw [(jo_eq p h'.head).1 he]; exact h.concat he h'
  · rw [(jo_eq p h'.head).2 he, show p ++ 47 :: c = (p ++ [47]) ++ c by simp]
    exact (h.slash (h.ne he)).concat (.inr ⟨p, rfl⟩) h'
theorem jo_nil_end (p : Oct) : EndS (jo p []) := by
  by_cases he : EndS p
  · rw [(jo_eq p (c := []) (fun r e => by cases e)).1 he, List.append_nil]; exact he
  · rw [(jo_eq p (c := []) (fun r e => by cases e)).2 he]; exact .inr ⟨p, rfl⟩
theorem Spl.nil (m : Nat) : Spl m [] (sl m) := ⟨[], ⟨fun x hx => by simp at hx, fun x hx => by simp at hx⟩, rfl, by simp [ssp]⟩
/-- names, glued -/
noncomputable def mkl : List Oct → List (Oct × Nat)
  | [] => []
  | [n] => [(n, 0)]
  | n :: n' :: N => (n, 1) :: mkl (n' :: N)
theorem ssp_mkl : ∀ N, ssp (mkl N) = jn [47] N
  | [] => rfl
  | [n] => by simp [mkl, ssp, jn, sl]
  | n :: n' :: N => by
    have := ssp_mkl (n' :: N)
    show n ++ sl 1 ++ ssp (mkl (n' :: N)) = n ++ [47] ++ jn [47] (n' :: N)
    rw [this]; rfl
theorem nms_mkl : ∀ N, nms (mkl N) = N
  | [] => rfl
  | [n] => rfl
  | n :: n' :: N => by
    have := nms_mkl (n' :: N)
    show n :: nms (mkl (n' :: N)) = _
    rw [this]
theorem mkl_snoc : ∀ (N : List Oct) (n : Oct), mkl (N ++ [n]) = N.map (fun x => (x, 1)) ++ [(n, 0)]
  | [], n => rfl
  | [a], n => rfl
  | a :: b :: N, n => by
    have := mkl_snoc (b :: N) n
    show (a, 1) :: mkl ((b :: N) ++ [n]) = _
    rw [this]; rfl
theorem wf_mkl (N : List Oct) (h : ∀ n ∈ N, WN n) : WF (mkl N) := by
  rcases snoc_cases N with rfl | ⟨N', n, rfl⟩
  · exact ⟨fun x hx => by simp [mkl] at hx, fun x hx => by simp [mkl] at hx⟩
  · rw [mkl_snoc]
    refine ⟨fun x hx => ?_, fun x hx => ?_⟩
    · rcases List.mem_append.mp hx with hx | hx
      · obtain ⟨y, hy, rfl⟩ := List.mem_map.mp hx
        exact h y (by simp [hy])
      · rw [List.mem_singleton.mp hx]; exact h n (by simp)
    · rw [List.dropLast_concat] at hx
      obtain ⟨y, hy, rfl⟩ := List.mem_map.mp hx
      exact Nat.le_refl _
theorem zr_mkl (N : List Oct) : zr (mkl N) = mkl N := by
  rcases snoc_cases N with rfl | ⟨N', n, rfl⟩
  · rfl
  · rw [mkl_snoc, zr_snoc]
theorem spl_names (m : Nat) (N : List Oct) (h : ∀ n ∈ N, WN n) : Spl m N (sl m ++ jn [47] N) := ⟨mkl N, wf_mkl N h, nms_mkl N, by rw [ssp_mkl]⟩
theorem jn_snoc {N : List Oct} (hN : N ≠ []) (n : Oct) : jn [47] (N ++ [n]) = jn [47] N ++ 47 :: n := by
  induction N with
  | nil => exact absurd rfl hN
  | cons a N ih =>
    cases N with
    | nil => simp [jn]
    | cons b N =>
      have := ih (by simp)
      show a ++ [47] ++ jn [47] ((b :: N) ++ [n]) = a ++ [47] ++ jn [47] (b :: N) ++ 47 :: n
      rw [this]; simp
/-- a glued path does not end by a slash -/
theorem noend_names (m : Nat) {N : List Oct} (h : ∀ n ∈ N, WN n) (hN : N ≠ []) : ¬ EndS (sl m ++ jn [47] N) := fun he => by
  rw [← ssp_mkl] at he
  have := endS_ge (wf_mkl N h) he
  rcases snoc_cases N with rfl | ⟨N', n, rfl⟩
  · exact hN rfl
  · rw [mkl_snoc] at this
    have := this (n, 0) (by simp)
    simp at this
theorem jos_names (m : Nat) : ∀ (k : Nat) (N : List Oct), N.length = k → (∀ n ∈ N, WN n) → jos (sl m) N = sl m ++ jn [47] N
  | 0, N, hk, _ => by
    have : N = [] := List.length_eq_zero_iff.mp hk
    subst this
    show sl m = sl m ++ []
    rw [List.append_nil]
  | k + 1, N, hk, h => by
    rcases snoc_cases N with rfl | ⟨N', n, rfl⟩
    · simp at hk
    · have h' : ∀ x ∈ N', WN x := fun x hx => h x (by simp [hx])
      have hn : WN n := h n (by simp)
      have hs : ∀ r, n ≠ 47 :: r := fun r e => hn.2 (by rw [e]; exact List.mem_cons_self)
      have e : jos (sl m) (N' ++ [n]) = jo (jos (sl m) N') n := by unfold jos; rw [List.foldl_append]; rfl
      rw [e, jos_names m k N' (by simpa using hk) h']
      by_cases hN : N' = []
      · subst hN
        rw [show jn [47] [] = ([] : Oct) from rfl, List.append_nil, (jo_eq _ hs).1 (endS_sl m)]; rfl
      · rw [(jo_eq _ hs).2 (noend_names m h' hN), jn_snoc hN]; simp
end Mine
end
section
open PySem PySem.W PyProof.Rows PySem.Calls PySem.SeqAt
set_option Elab.async false
set_option linter.unusedVariables false
set_option maxRecDepth 100000
namespace Mine
/-- a name that is neither a lone dot nor two -/
structure PN (n : Oct) : Prop where
  wn : WN n
  d1 : n ≠ [46]
  d2 : n ≠ [46, 46]
structure GP (q : Oct × Oct) : Prop where
  gn : GN q
  pn : PN (q.1 ++ q.2)
theorem gp_of (q : Oct × Oct) (h : (q.1 ++ q.2 != [] && !(q.1 ++ q.2).contains 47 && sx (q.1 ++ q.2) == q && q.1 ++ q.2 != [46] && q.1 ++ q.2 != [46, 46]) = true) : GP q := by
  simp only [Bool.and_eq_true, bne_iff_ne, beq_iff_eq, Bool.not_eq_true', List.contains_eq_mem, decide_eq_false_iff_not] at h
  obtain ⟨⟨⟨⟨h1, h2⟩, h3⟩, h4⟩, h5⟩ := h
  exact ⟨⟨⟨h1, h2⟩, h3⟩, ⟨⟨h1, h2⟩, h4, h5⟩⟩
theorem gn_of (q : Oct × Oct) (h : (q.1 ++ q.2 != [] && !(q.1 ++ q.2).contains 47 && sx (q.1 ++ q.2) == q) = true) : GN q := by
  simp only [Bool.and_eq_true, bne_iff_ne, beq_iff_eq, Bool.not_eq_true', List.contains_eq_mem, decide_eq_false_iff_not] at h
  obtain ⟨⟨h1, h2⟩, h3⟩ := h
  exact ⟨⟨h1, h2⟩, h3⟩
theorem gn_up2 : GN up2 := gn_of _ (by decide +kernel)
theorem gn_dot : GN ([46], []) := gn_of _ (by decide +kernel)
theorem gp_last (n : Int) : GP (lnLast n, []) := by
  unfold lnLast
  split
  · exact gp_of _ (by decide +kernel)
  · rename_i h
    generalize lnSign n = c at h
    have h1 : c ≠ 46 := fun e => h (by rw [e]; decide)
    have h2 : c ≠ 47 := fun e => h (by rw [e]; decide)
    have w : WN ([99, c] : Oct) := ⟨by simp, by simp; exact fun e => h2 e.symm⟩
    have e : ([99, c] ++ [] : Oct) = [99, c] := rfl
    refine ⟨⟨by show WN ([99, c] ++ []); rw [e]; exact w, ?_⟩, ⟨by show WN ([99, c] ++ []); rw [e]; exact w, by simp, by simp⟩⟩
    show sx ([99, c] ++ []) = ([99, c], [])
    rw [e]
    have : aft 46 ([99, c] : Oct) = 0 := aft_none 46 _ (by simp; exact fun e => h1 e.symm)
    unfold sx
    rw [this, if_neg (by simp)]
theorem gp_name (n : Int) : GP (lnName n) := by
  have h1 : (n % 8).toNat < 8 := by omega
  unfold lnName lnAll
  match (n % 8).toNat, h1 with
  | 0, _ => exact gp_of ([97], []) (by decide +kernel)
  | 1, _ => exact gp_of ([98], []) (by decide +kernel)
  | 2, _ => exact gp_of ([97], [46, 98]) (by decide +kernel)
  | 3, _ => exact gp_of ([46, 97], []) (by decide +kernel)
  | 4, _ => exact gp_of ([46, 46, 46], []) (by decide +kernel)
  | 5, _ => exact gp_of ([97, 46, 98], [46]) (by decide +kernel)
  | 6, _ => exact gp_of ([46, 46, 98], [46, 97]) (by decide +kernel)
  | 7, _ => exact gp_last n
theorem nps_dot (r : Bool) (acc : List Oct) : npS r acc [46] = acc := by simp [npS]
theorem nps_name (r : Bool) (acc : List Oct) {n : Oct} (h : PN n) : npS r acc n = acc ++ [n] := by
  have h1 : n ≠ [] := h.wn.1
  have h2 := h.d1
  have h3 := h.d2
  unfold npS
  rw [if_neg (by simp [h1, h2]), if_pos (by simp [h3])]
theorem nps_up (acc : List Oct) (h : acc = [] ∨ acc.getLast? = some [46, 46]) : npS false acc [46, 46] = acc ++ [[46, 46]] := by
  unfold npS
  rw [if_neg (by decide), if_pos]
  rcases h with rfl | h
  · decide
  · cases acc with
    | nil => cases h
    | cons a r => simp [h]
theorem nps_root : npS true [] [46, 46] = [] := by decide
theorem nps_pop (r : Bool) (acc : List Oct) {n : Oct} (h : n ≠ [46, 46]) : npS r (acc ++ [n]) [46, 46] = acc := by
  unfold npS
  rw [if_neg (by decide), if_neg]
  · simp
  · have e : (acc ++ [n]).isEmpty = false := by cases acc <;> rfl
    simp [h]
theorem nps_pops (r : Bool) (X : List Oct) : ∀ (k : Nat) (D : List Oct), D.length = k → (∀ n ∈ D, n ≠ [46, 46]) → (List.replicate k [46, 46]).foldl (npS r) (X ++ D) = X
  | 0, D, hk, _ => by
    have : D = [] := List.length_eq_zero_iff.mp hk
    subst this; simp
  | k + 1, D, hk, h => by
    rcases snoc_cases D with rfl | ⟨D', n, rfl⟩
    · simp at hk
    · rw [List.replicate_succ, List.foldl_cons, ← List.append_assoc, nps_pop r _ (h n (by simp))]
      exact nps_pops r X k D' (by simpa using hk) (fun x hx => h x (by simp [hx]))
-- the law's state
structure BF where
  p : Oct
  r : Oct
  l : List (Oct × Oct)
  z : List V
noncomputable def bfV (b : BF) : V := .tup (.tx .s b.p :: .tx .s b.r :: prL b.l :: b.z)
noncomputable def bfOf (t : TH) : BF := ⟨t.plain, t.root, t.rows, [.tx .s t.crooked, .tx .s t.ahead, prL t.spelled]⟩
noncomputable def b0 : BF := ⟨[46], [], [([46], [])], []⟩
/-- what is known of a way told before -/
structure BOk (b : BF) : Prop where
  ok : ∃ m, b.r = sl m ∧ b.p = sl m ++ jn [47] (namesOf b.l) ∧ (∀ q ∈ b.l, GN q) ∧ ((∀ q ∈ b.l, q ≠ ([46], [])) ∨ (m = 0 ∧ b.l = [([46], [])]))
  z1 : b.p.length ≤ 1000
  z2 : tot (namesOf b.l) ≤ 1000
theorem bok0 : BOk b0 := ⟨⟨0, rfl, rfl, fun q hq => by rw [List.mem_singleton.mp hq]; exact gn_dot, .inr ⟨rfl, rfl⟩⟩, by decide, by decide⟩
structure PI (m : Nat) (D : List Oct) (i : Nat) (s : LS) : Prop where
  fr : ∃ k, k ≤ 3 ∧ s.front = sl k
  ahead : s.ahead = sl m
  root : s.root = rootOf m
  cur : (s.front = [] ∧ ∃ L0 L1, Spl m L0 (s.texts.foldl jo []) ∧ Spl 0 L1 (jn [47] s.pieces) ∧ (s.pieces = [] ↔ L1 = []) ∧ namesOf s.spelled = L0 ++ L1) ∨
    (s.front ≠ [] ∧ s.ahead = s.front ∧ Spl 0 (namesOf s.spelled) (jn [47] s.pieces) ∧ (s.pieces = [] ↔ s.spelled = []))
  nf : (namesOf s.spelled).foldl (npS (decide (m ≠ 0))) [] = List.replicate s.ups [46, 46] ++ namesOf s.way ++ D
  dlen : D.length = s.deep
  dpn : ∀ n ∈ D, PN n
  ups0 : m ≠ 0 → s.ups = 0
  way : ∀ q ∈ s.way, GP q
  sp : ∀ q ∈ s.spelled, GN q
  m3 : m ≤ 3
  z1 : s.texts.length ≤ i
  z2 : tot s.texts ≤ i * 200
  z3 : s.pieces.length ≤ i
  z4 : tot s.pieces ≤ i * 6
  z5 : s.way.length ≤ i
  z6 : s.spelled.length ≤ i
  z7 : tot (namesOf s.spelled) ≤ i * 6
  z8 : tot (namesOf s.way) ≤ i * 6
  z9 : s.ups ≤ i
  z10 : s.deep ≤ i
theorem pi0 : PI 0 [] 0 LS0 :=
  ⟨⟨0, by decide, rfl⟩, rfl, rfl, .inl ⟨rfl, [], [], Spl.nil 0, Spl.nil 0, by simp [LS0], rfl⟩, rfl, rfl, fun n hn => by simp at hn, fun h => absurd rfl h, fun q hq => by simp [LS0] at hq, fun q hq => by simp [LS0] at hq, by decide,
    by decide, by decide, by decide, by decide, by decide, by decide, by decide, by decide, by decide, by decide⟩
theorem tot_snoc (l : List Oct) (x : Oct) : tot (l ++ [x]) = tot l + x.length + 1 := by unfold tot; simp [List.sum_append]; omega
/-- the parts joined, before the detours end -/
noncomputable def preOf (s : LS) : Oct := (s.texts ++ [partOf s]).foldl jo []
theorem jo_slash {p c : Oct} {r : Oct} (h : c = 47 :: r) : jo p c = c := by unfold jo; rw [h]; rfl
theorem pre_spl {m : Nat} {D : List Oct} {i : Nat} {s : LS} (h : PI m D i s) : Spl m (namesOf s.spelled) (preOf s) := by
  unfold preOf partOf
  rw [List.foldl_append]
  show Spl m _ (jo (s.texts.foldl jo []) (s.front ++ jn [47] s.pieces))
  rcases h.cur with ⟨h1, L0, L1, h2, h3, _, h5⟩ | ⟨h1, h2, h3, _⟩
  · rw [h1, h5, List.nil_append]
    exact h2.join h3
  · have e : s.front = sl m := h2.symm.trans h.ahead
    have hm : m ≠ 0 := by rintro rfl; exact h1 e
    obtain ⟨k, rfl⟩ : ∃ k, m = k + 1 := ⟨m - 1, by omega⟩
    rw [jo_slash (r := sl k ++ jn [47] s.pieces) (by rw [e]; rfl), e]
    have := (Spl.nil (k + 1)).concat (endS_sl _) h3
    rwa [List.nil_append] at this
end Mine
end
section
open PySem PySem.W PyProof.Rows PySem.Calls PySem.SeqAt
set_option Elab.async false
set_option linter.unusedVariables false
set_option maxRecDepth 100000
namespace Mine
theorem front0_sl (n : Int) : ∃ k, k ≤ 3 ∧ front0 n = sl k := by
  have h1 : (n % 8).toNat < 8 := by omega
  unfold front0
  match (n % 8).toNat, h1 with
  | 0, _ | 1, _ | 2, _ | 3, _ | 4, _ => exact ⟨0, by decide, rfl⟩
  | 5, _ => exact ⟨1, by decide, rfl⟩
  | 6, _ => exact ⟨2, by decide, rfl⟩
  | 7, _ => exact ⟨3, by decide, rfl⟩
theorem partOf_len {m : Nat} {D : List Oct} {i : Nat} {s : LS} (h : PI m D i s) (hi : i ≤ 25) : (partOf s).length ≤ 153 := by
  obtain ⟨k, hk, e⟩ := h.fr
  have hj := jn_len s.pieces
  have := h.z4
  unfold partOf
  rw [List.length_append, e]
  have : (sl k).length = k := by simp [sl]
  omega
theorem pi_next {m : Nat} {D : List Oct} {i : Nat} {s : LS} (h : PI m D i s) (hi : i < 25) (n : Int) : ∃ m' D', PI m' D' (i + 1) (nextS s n) := by
  obtain ⟨k, hk, ef⟩ := front0_sl n
  have hp := partOf_len h (by omega)
  have ht : tot (s.texts ++ [partOf s]) ≤ (i + 1) * 200 := by rw [tot_snoc]; have := h.z2; omega
  have htl : (s.texts ++ [partOf s]).length ≤ i + 1 := by rw [List.length_append]; have := h.z1; simp; omega
  unfold nextS
  by_cases h0 : front0 n = []
  · rw [if_pos h0]
    refine ⟨m, D, ⟨⟨0, by decide, h0⟩, h.ahead, h.root, .inl ⟨h0, namesOf s.spelled, [], pre_spl h, Spl.nil 0, by simp, by simp⟩, h.nf, h.dlen, h.dpn, h.ups0, h.way, h.sp, h.m3, htl, ht, Nat.zero_le _, Nat.zero_le _, ?_, ?_, ?_, ?_, ?_, ?_⟩⟩
    · have := h.z5; show s.way.length ≤ _; omega
    · have := h.z6; show s.spelled.length ≤ _; omega
    · have := h.z7; show tot (namesOf s.spelled) ≤ _; omega
    · have := h.z8; show tot (namesOf s.way) ≤ _; omega
    · have := h.z9; show s.ups ≤ _; omega
    · have := h.z10; show s.deep ≤ _; omega
  · rw [if_neg h0]
    have hk0 : k ≠ 0 := by rintro rfl; exact h0 ef
    refine ⟨k, [], ⟨⟨k, hk, ef⟩, ef, ?_, .inr ⟨h0, rfl, Spl.nil 0, by simp⟩, rfl, rfl, fun x hx => by simp at hx, fun _ => rfl, fun q hq => by simp at hq, fun q hq => by simp at hq, hk, htl, ht, Nat.zero_le _, Nat.zero_le _, Nat.zero_le _, Nat.zero_le _, Nat.zero_le _, Nat.zero_le _, Nat.zero_le _, Nat.zero_le _⟩⟩
    show (if front0 n = [47, 47] then [47, 47] else [47]) = rootOf k
    rw [ef]
    unfold rootOf
    rw [if_neg hk0]
    match k, hk, hk0 with
    | 1, _, _ => rfl
    | 2, _, _ => rfl
    | 3, _, _ => rfl
theorem spl_one_name {x : Oct} (h : WN x) : Spl 0 [x] x := by
  have := spl_names 0 [x] (fun n hn => by rw [List.mem_singleton.mp hn]; exact h)
  exact this
theorem jn_add {ps L : List Oct} (h : Spl 0 L (jn [47] ps)) (hiff : ps = [] ↔ L = []) {x : Oct} (hx : WN x) : Spl 0 (L ++ [x]) (jn [47] (ps ++ [x])) := by
  by_cases hp : ps = []
  · have hL := hiff.mp hp
    subst hp hL
    exact spl_one_name hx
  · rw [jn_snoc hp, show jn [47] ps ++ 47 :: x = (jn [47] ps ++ [47]) ++ x by simp]
    exact (h.slash fun e => hp (hiff.mpr e)).concat (.inr ⟨_, rfl⟩) (spl_one_name hx)
theorem jn_add0 {ps L : List Oct} (h : Spl 0 L (jn [47] ps)) (hiff : ps = [] ↔ L = []) (hp : ps ≠ []) : Spl 0 L (jn [47] (ps ++ [[]])) := by
  rw [jn_snoc hp]
  exact h.slash fun e => hp (hiff.mpr e)
theorem namesOf_snoc (l : List (Oct × Oct)) (q : Oct × Oct) : namesOf (l ++ [q]) = namesOf l ++ [q.1 ++ q.2] := by simp [namesOf]
/-- a piece that is spelled -/
theorem pi_add {m : Nat} {D : List Oct} {i : Nat} {s : LS} (h : PI m D i s) (q : Oct × Oct) (hq : GN q) (hl : (q.1 ++ q.2).length ≤ 5) (ups : Nat) (way : List (Oct × Oct)) (deep : Nat) (D' : List Oct)
    (nf : npS (decide (m ≠ 0)) (List.replicate s.ups [46, 46] ++ namesOf s.way ++ D) (q.1 ++ q.2) = List.replicate ups [46, 46] ++ namesOf way ++ D') (dlen : D'.length = deep) (dpn : ∀ n ∈ D', PN n) (ups0 : m ≠ 0 → ups = 0) (hway : ∀ q ∈ way, GP q)
    (z5 : way.length ≤ i + 1) (z8 : tot (namesOf way) ≤ (i + 1) * 6) (z9 : ups ≤ i + 1) (z10 : deep ≤ i + 1) :
    PI m D' (i + 1) { s with ups := ups, way := way, deep := deep, pieces := s.pieces ++ [q.1 ++ q.2], spelled := s.spelled ++ [q] } := by
  refine ⟨h.fr, h.ahead, h.root, ?_, ?_, dlen, dpn, ups0, hway, ?_, h.m3, ?_, ?_, ?_, ?_, z5, ?_, ?_, z8, z9, z10⟩
  · rcases h.cur with ⟨h1, L0, L1, h2, h3, h4, h5⟩ | ⟨h1, h2, h3, h4⟩
    · refine .inl ⟨h1, L0, L1 ++ [q.1 ++ q.2], h2, jn_add h3 h4 hq.wn, by simp, ?_⟩
      show namesOf (s.spelled ++ [q]) = _
      rw [namesOf_snoc, h5, List.append_assoc]
    · refine .inr ⟨h1, h2, ?_, by simp⟩
      show Spl 0 (namesOf (s.spelled ++ [q])) _
      rw [namesOf_snoc]
      exact jn_add h3 (h4.trans ⟨fun e => by rw [e]; rfl, fun e => List.map_eq_nil_iff.mp e⟩) hq.wn
  · show (namesOf (s.spelled ++ [q])).foldl _ [] = _
    rw [namesOf_snoc, List.foldl_append, h.nf]
    exact nf
  · intro x hx
    rcases List.mem_append.mp hx with hx | hx
    · exact h.sp x hx
    · rw [List.mem_singleton.mp hx]; exact hq
  · have := h.z1; show s.texts.length ≤ _; omega
  · have := h.z2; show tot s.texts ≤ _; omega
  · have := h.z3; show (s.pieces ++ [_]).length ≤ _; rw [List.length_append]; simp; omega
  · have := h.z4; show tot (s.pieces ++ [_]) ≤ _; rw [tot_snoc]; omega
  · have := h.z6; show (s.spelled ++ [_]).length ≤ _; rw [List.length_append]; simp; omega
  · have := h.z7; show tot (namesOf (s.spelled ++ [q])) ≤ _; rw [namesOf_snoc, tot_snoc]; omega
/-- an empty piece -/
theorem pi_add0 {m : Nat} {D : List Oct} {i : Nat} {s : LS} (h : PI m D i s) (hp : s.pieces ≠ []) : PI m D (i + 1) { s with pieces := s.pieces ++ [[]] } := by
  refine ⟨h.fr, h.ahead, h.root, ?_, h.nf, h.dlen, h.dpn, h.ups0, h.way, h.sp, h.m3, ?_, ?_, ?_, ?_, ?_, ?_, ?_, ?_, ?_, ?_⟩
  · rcases h.cur with ⟨h1, L0, L1, h2, h3, h4, h5⟩ | ⟨h1, h2, h3, h4⟩
    · refine .inl ⟨h1, L0, L1, h2, jn_add0 h3 h4 hp, ?_, h5⟩
      constructor
      · intro e; exact absurd e (by simp)
      · intro e; exact absurd (h4.mpr e) hp
    · refine .inr ⟨h1, h2, jn_add0 h3 (h4.trans ⟨fun e => by rw [e]; rfl, fun e => List.map_eq_nil_iff.mp e⟩) hp, ?_⟩
      constructor
      · intro e; exact absurd e (by simp)
      · intro e; exact absurd (h4.mpr e) hp
  · have := h.z1; show s.texts.length ≤ _; omega
  · have := h.z2; show tot s.texts ≤ _; omega
  · have := h.z3; show (s.pieces ++ [_]).length ≤ _; rw [List.length_append]; simp; omega
  · have := h.z4; show tot (s.pieces ++ [[]]) ≤ _; rw [tot_snoc]; simp; omega
  · have := h.z5; show s.way.length ≤ _; omega
  · have := h.z6; show s.spelled.length ≤ _; omega
  · have := h.z7; show tot (namesOf s.spelled) ≤ _; omega
  · have := h.z8; show tot (namesOf s.way) ≤ _; omega
  · have := h.z9; show s.ups ≤ _; omega
  · have := h.z10; show s.deep ≤ _; omega
theorem gn_ne {q : Oct × Oct} (h : GN q) : q ≠ ([], []) := fun e => h.wn.1 (by rw [e]; rfl)
theorem pi_piece {m : Nat} {D : List Oct} {i : Nat} {s : LS} (h : PI m D i s) (w n : Int) (hw : 1 ≤ w) : ∃ D', PI m D' (i + 1) (pieceS s w n) := by
  have hnl := lnName_len n
  have hg := gp_name n
  have hne := gn_ne hg.gn
  have z5 := h.z5
  have z8 := h.z8
  have z9 := h.z9
  have z10 := h.z10
  have hlen : ((lnName n).1 ++ (lnName n).2).length ≤ 5 := by rw [List.length_append]; omega
  by_cases h1 : w = 1
  · by_cases hc : n % 2 = 1 ∧ s.pieces ≠ []
    · have e : pieceS s w n = { s with pieces := s.pieces ++ [[]] } := by
        unfold pieceS pieceB
        rw [if_pos h1, if_pos hc]
        simp
      rw [e]
      exact ⟨D, pi_add0 h hc.2⟩
    · have e : pieceS s w n = { s with ups := s.ups, way := s.way, deep := s.deep, pieces := s.pieces ++ [[46] ++ []], spelled := s.spelled ++ [([46], [])] } := by
        unfold pieceS pieceB
        rw [if_pos h1, if_neg hc]
        simp
      rw [e]
      exact ⟨D, pi_add h ([46], []) gn_dot (by decide) s.ups s.way s.deep D (nps_dot _ _) h.dlen h.dpn h.ups0 h.way (by omega) (by omega) (by omega) (by omega)⟩
  · by_cases h2 : w < 4 ∨ (5 < w ∧ 0 < s.deep)
    · have e : pieceS s w n = { s with ups := s.ups, way := s.way, deep := s.deep + 1, pieces := s.pieces ++ [(lnName n).1 ++ (lnName n).2], spelled := s.spelled ++ [lnName n] } := by
        unfold pieceS pieceB
        rw [if_neg h1, if_pos h2]
        simp [hne]
      rw [e]
      refine ⟨D ++ [(lnName n).1 ++ (lnName n).2], pi_add h (lnName n) hg.gn hlen s.ups s.way (s.deep + 1) _ ?_ (by simp [h.dlen]) ?_ h.ups0 h.way (by omega) (by omega) (by omega) (by omega)⟩
      · rw [nps_name _ _ hg.pn, List.append_assoc]
      · intro x hx
        rcases List.mem_append.mp hx with hx | hx
        · exact h.dpn x hx
        · rw [List.mem_singleton.mp hx]; exact hg.pn
    · by_cases h3 : 5 < w
      · have hd : s.deep = 0 := by
          by_cases hd : s.deep = 0
          · exact hd
          · exact absurd (.inr ⟨h3, by omega⟩) h2
        have hD : D = [] := List.length_eq_zero_iff.mp (h.dlen.trans hd)
        have e : pieceS s w n = { s with ups := s.ups, way := s.way ++ [lnName n], deep := s.deep, pieces := s.pieces ++ [(lnName n).1 ++ (lnName n).2], spelled := s.spelled ++ [lnName n] } := by
          unfold pieceS pieceB
          rw [if_neg h1, if_neg h2, if_pos h3]
          simp [hne]
        rw [e]
        refine ⟨D, pi_add h (lnName n) hg.gn hlen s.ups (s.way ++ [lnName n]) s.deep D ?_ h.dlen h.dpn h.ups0 ?_ (by simp; omega) ?_ (by omega) (by omega)⟩
        · rw [nps_name _ _ hg.pn, hD, namesOf_snoc]; simp
        · intro x hx
          rcases List.mem_append.mp hx with hx | hx
          · exact h.way x hx
          · rw [List.mem_singleton.mp hx]; exact hg
        · rw [namesOf_snoc, tot_snoc]; omega
      · by_cases h4 : 0 < s.deep
        · have e : pieceS s w n = { s with ups := s.ups, way := s.way, deep := s.deep - 1, pieces := s.pieces ++ [[46, 46] ++ []], spelled := s.spelled ++ [up2] } := by
            unfold pieceS pieceB
            rw [if_neg h1, if_neg h2, if_neg h3, if_pos h4]
            simp [up2]
          rw [e]
          rcases snoc_cases D with rfl | ⟨D', x, rfl⟩
          · have := h.dlen; simp at this; omega
          · have hx := h.dpn x (by simp)
            refine ⟨D', pi_add h up2 gn_up2 (by decide) s.ups s.way (s.deep - 1) D' ?_ ?_ (fun y hy => h.dpn y (by simp [hy])) h.ups0 h.way (by omega) (by omega) (by omega) (by omega)⟩
            · show npS _ _ [46, 46] = _
              rw [← List.append_assoc, nps_pop _ _ hx.d2]
            · have := h.dlen; simp at this; omega
        · have hd : s.deep = 0 := by omega
          have hD : D = [] := List.length_eq_zero_iff.mp (h.dlen.trans hd)
          by_cases h5 : s.way ≠ []
          · have e : pieceS s w n = { s with ups := s.ups, way := s.way, deep := s.deep, pieces := s.pieces ++ [[46] ++ []], spelled := s.spelled ++ [([46], [])] } := by
              unfold pieceS pieceB
              rw [if_neg h1, if_neg h2, if_neg h3, if_neg h4, if_pos h5]
              simp
            rw [e]
            exact ⟨D, pi_add h ([46], []) gn_dot (by decide) s.ups s.way s.deep D (nps_dot _ _) h.dlen h.dpn h.ups0 h.way (by omega) (by omega) (by omega) (by omega)⟩
          · have hw0 : s.way = [] := by simpa using h5
            by_cases h6 : s.root = []
            · have hm : m = 0 := by
                have := h.root
                rw [h6] at this
                unfold rootOf at this
                by_cases hm : m = 0
                · exact hm
                · rw [if_neg hm] at this; split at this <;> cases this
              have e : pieceS s w n = { s with ups := s.ups + 1, way := s.way, deep := s.deep, pieces := s.pieces ++ [[46, 46] ++ []], spelled := s.spelled ++ [up2] } := by
                unfold pieceS pieceB
                rw [if_neg h1, if_neg h2, if_neg h3, if_neg h4, if_neg h5, if_pos h6]
                simp [up2]
              rw [e]
              refine ⟨D, pi_add h up2 gn_up2 (by decide) (s.ups + 1) s.way s.deep D ?_ h.dlen h.dpn (fun hm' => absurd hm hm') h.way (by omega) (by omega) (by omega) (by omega)⟩
              show npS _ _ [46, 46] = _
              subst hm
              rw [hD, hw0]
              show npS false (List.replicate s.ups [46, 46] ++ [] ++ []) [46, 46] = List.replicate (s.ups + 1) [46, 46] ++ [] ++ []
              rw [List.append_nil, List.append_nil, List.append_nil, List.append_nil, nps_up, List.replicate_succ']
              cases hu : s.ups with
              | zero => exact .inl rfl
              | succ u => rw [List.replicate_succ']; exact .inr (by simp)
            · have hm : m ≠ 0 := by
                rintro rfl; exact h6 h.root
              have e : pieceS s w n = { s with ups := s.ups, way := s.way, deep := s.deep, pieces := s.pieces ++ [[46, 46] ++ []], spelled := s.spelled ++ [up2] } := by
                unfold pieceS pieceB
                rw [if_neg h1, if_neg h2, if_neg h3, if_neg h4, if_neg h5, if_neg h6]
                simp [up2]
              rw [e]
              refine ⟨D, pi_add h up2 gn_up2 (by decide) s.ups s.way s.deep D ?_ h.dlen h.dpn h.ups0 h.way (by omega) (by omega) (by omega) (by omega)⟩
              show npS _ _ [46, 46] = _
              rw [hD, hw0, h.ups0 hm, decide_eq_true hm]
              exact nps_root
end Mine
end
section
open PySem PySem.W PyProof.Rows PySem.Calls PySem.SeqAt
set_option Elab.async false
set_option linter.unusedVariables false
set_option maxRecDepth 100000
namespace Mine
theorem crooked_eq (s : LS) : crookedOf s = jo (preOf s) (jn [47] (List.replicate s.deep [46, 46])) := by
  unfold crookedOf preOf partsOf jos
  generalize hA : s.texts ++ [partOf s] = A
  have hne : A ≠ [] := by rw [← hA]; simp
  obtain ⟨a, ps, rfl⟩ := List.exists_cons_of_ne_nil hne
  show (ps ++ [_]).foldl jo a = jo (ps.foldl jo (jo [] a)) _
  rw [List.foldl_append]
  have : jo [] a = a := by unfold jo; rw [if_pos (by simp)]
  rw [this]; rfl
theorem rootOf_sl {m : Nat} (h : m ≤ 3) : ∃ k, k ≤ 2 ∧ rootOf m = sl k ∧ (k = 0 ↔ m = 0) := by
  match m, h with
  | 0, _ => exact ⟨0, by decide, rfl, by simp⟩
  | 1, _ => exact ⟨1, by decide, rfl, by simp⟩
  | 2, _ => exact ⟨2, by decide, rfl, by simp⟩
  | 3, _ => exact ⟨1, by decide, rfl, by simp⟩
theorem sl_nil {k : Nat} : sl k = [] ↔ k = 0 := by
  cases k with
  | zero => simp [sl]
  | succ k => simp [sl, List.replicate_succ]
theorem names_wn {l : List (Oct × Oct)} (h : ∀ q ∈ l, GN q) : ∀ n ∈ namesOf l, WN n := fun n hn => by
  obtain ⟨q, hq, rfl⟩ := List.mem_map.mp hn
  exact (h q hq).wn
theorem names_rep (k : Nat) : namesOf (List.replicate k up2) = List.replicate k [46, 46] := by unfold namesOf; rw [List.map_replicate]; rfl
theorem names_append (a b : List (Oct × Oct)) : namesOf (a ++ b) = namesOf a ++ namesOf b := by simp [namesOf]
theorem zr_of_noend {m : Nat} {l : List (Oct × Nat)} (h : WF l) (hn : ¬ EndS (sl m ++ ssp l)) : zr l = l := by
  rcases snoc_cases l with rfl | ⟨l', ⟨n, k⟩, rfl⟩
  · rfl
  · cases k with
    | zero => exact zr_snoc _ _ _
    | succ k => exact absurd (up_slash (m := m) h).2.2.2 hn
theorem rooted_sl {m : Nat} {p : Oct} (h : ∀ r, p ≠ 47 :: r) : rooted (sl m ++ p) = decide (m ≠ 0) := by
  unfold rooted
  cases m with
  | zero =>
    show (p.head? == some 47) = _
    cases p with
    | nil => rfl
    | cons c p =>
      have : c ≠ 47 := fun e => h p (by rw [e])
      simpa using this
  | succ m => simp [sl, List.replicate_succ]
/-- the crooked path, read -/
theorem crooked_read {m : Nat} {D : List Oct} {i : Nat} {s : LS} (h : PI m D i s) :
    readOf (crookedOf s) = (s.ahead, spelledOf s) ∧ climbOf (crookedOf s) = (s.ahead, namesOf (spelledOf s)) ∧ ∃ l, WF l ∧ crookedOf s = sl m ++ ssp l ∧ nms l = namesOf s.spelled ++ List.replicate s.deep [46, 46] := by
  have hp := pre_spl h
  rw [h.ahead]
  by_cases hd : s.deep = 0
  · have hc : crookedOf s = jo (preOf s) [] := by rw [crooked_eq, hd]; rfl
    have he : EndS (crookedOf s) := by rw [hc]; exact jo_nil_end _
    have hs := hp.join (Spl.nil 0)
    rw [show sl 0 = ([] : Oct) from rfl, ← hc, List.append_nil] at hs
    obtain ⟨l, h1, h2, h3⟩ := hs
    have hsp : spelledOf s = if s.spelled ≠ [] then s.spelled ++ [([], [])] else s.spelled := by
      unfold spelledOf
      rw [hd]
      simp
    rw [hd, show List.replicate 0 ([46, 46] : Oct) = [] from rfl, List.append_nil]
    refine ⟨?_, ?_, l, h1, h3, h2⟩
    · rcases snoc_cases l with rfl | ⟨l', ⟨n, k⟩, rfl⟩
      · have e : s.spelled = [] := List.map_eq_nil_iff.mp h2.symm
        rw [hsp, if_neg (by simpa using e), e, h3, show ssp [] = ([] : Oct) from rfl, List.append_nil]
        exact read_stop (dn_sl m)
      · have hne : s.spelled ≠ [] := fun e => by rw [e] at h2; simp [nms, namesOf] at h2
        rw [h3] at he
        have hk := endS_ge h1 he (n, k) (by simp)
        obtain ⟨j, rfl⟩ : ∃ j, k = j + 1 := ⟨k - 1, by simp at hk; omega⟩
        rw [hsp, if_pos hne, h3]
        exact read_ssp m l' n j s.spelled h1 h2 h.sp
    · rcases snoc_cases l with rfl | ⟨l', ⟨n, k⟩, rfl⟩
      · have e : s.spelled = [] := List.map_eq_nil_iff.mp h2.symm
        rw [hsp, if_neg (by simpa using e), e, h3, show ssp [] = ([] : Oct) from rfl, List.append_nil]
        exact climb_stop (dn_sl m)
      · have hne : s.spelled ≠ [] := fun e => by rw [e] at h2; simp [nms, namesOf] at h2
        rw [h3] at he
        have hk := endS_ge h1 he (n, k) (by simp)
        obtain ⟨j, rfl⟩ : ∃ j, k = j + 1 := ⟨k - 1, by simp at hk; omega⟩
        rw [hsp, if_pos hne, h3, climb_ssp m l' n j h1, h2, namesOf_snoc]; rfl
  · have hN : ∀ n ∈ List.replicate s.deep ([46, 46] : Oct), WN n := fun n hn => by rw [List.eq_of_mem_replicate hn]; exact gn_up2.wn
    have hc := spl_names 0 _ hN
    have hcn := noend_names 0 hN (by simp [hd])
    rw [show sl 0 = ([] : Oct) from rfl, List.nil_append] at hc hcn
    have hs := hp.join hc
    rw [← crooked_eq] at hs
    have hne : ¬ EndS (crookedOf s) := by
      rw [crooked_eq]
      intro he
      apply hcn
      rcases he with he | ⟨q, he⟩
      · by_cases hp' : EndS (preOf s)
        · rw [(jo_eq _ hc.head).1 hp'] at he
          exact .inl (List.append_eq_nil_iff.mp he).2
        · rw [(jo_eq _ hc.head).2 hp'] at he
          simp at he
      · rcases snoc_cases (jn [47] (List.replicate s.deep [46, 46])) with e | ⟨c, x, e⟩
        · exact .inl e
        · rw [e] at he ⊢
          have hx : x = 47 := by
            by_cases hp' : EndS (preOf s)
            · rw [(jo_eq _ (by rw [← e]; exact hc.head)).1 hp', ← List.append_assoc] at he
              simpa using List.append_inj_right' he rfl
            · rw [(jo_eq _ (by rw [← e]; exact hc.head)).2 hp', show preOf s ++ 47 :: (c ++ [x]) = (preOf s ++ 47 :: c) ++ [x] by simp] at he
              simpa using List.append_inj_right' he rfl
          exact .inr ⟨c, by rw [hx]⟩
    obtain ⟨l, h1, h2, h3⟩ := hs
    have hz := zr_of_noend h1 (by rw [← h3]; exact hne)
    have hsp : spelledOf s = s.spelled ++ List.replicate s.deep up2 := by
      unfold spelledOf
      rw [if_neg (by simp [hd])]
    have hnm : nms l = namesOf (spelledOf s) := by rw [hsp, names_append, names_rep]; exact h2
    refine ⟨?_, ?_, l, h1, h3, h2⟩
    · rw [h3, ← hz]
      refine read_zr m _ l _ rfl h1 hnm ?_
      rw [hsp]
      intro q hq
      rcases List.mem_append.mp hq with hq | hq
      · exact h.sp q hq
      · rw [List.eq_of_mem_replicate hq]; exact gn_up2
    · rw [h3, ← hz, climb_zr m _ l rfl h1, hnm]
theorem rows0_gn {m : Nat} {D : List Oct} {i : Nat} {s : LS} (h : PI m D i s) : ∀ q ∈ rows0 s, GN q ∧ q ≠ ([46], []) := fun q hq => by
  rcases List.mem_append.mp hq with hq | hq
  · rw [List.eq_of_mem_replicate hq]; exact ⟨gn_up2, by decide⟩
  · exact ⟨(h.way q hq).gn, fun e => (h.way q hq).pn.d1 (by rw [e]; rfl)⟩
/-- the plain path -/
theorem plain_eq {m : Nat} {D : List Oct} {i : Nat} {s : LS} (h : PI m D i s) : np (crookedOf s) = rootOf m ++ jn [47] (namesOf (rowsOf s)) := by
  obtain ⟨_, _, l, h1, h2, h3⟩ := crooked_read h
  have hf : (nms l).foldl (npS (decide (m ≠ 0))) [] = namesOf (rows0 s) := by
    rw [h3, List.foldl_append, h.nf, nps_pops _ _ s.deep D h.dlen (fun n hn => (h.dpn n hn).d2)]
    unfold rows0
    rw [names_append, names_rep]
  rw [h2, np_ssp m h1, hf]
  unfold rowsOf
  by_cases h0 : rows0 s = [] ∧ s.root = []
  · rw [if_pos h0, h0.1]
    have hr : rootOf m = [] := h.root.symm.trans h0.2
    rw [hr]; simp [namesOf, jn]
  · rw [if_neg h0, if_neg]
    intro e
    obtain ⟨e1, e2⟩ := List.append_eq_nil_iff.mp e
    refine h0 ⟨?_, h.root.trans e1⟩
    cases hr : rows0 s with
    | nil => rfl
    | cons q r =>
      exfalso
      have hq := (rows0_gn h q (by rw [hr]; exact List.mem_cons_self)).1.wn.1
      rw [hr] at e2
      have : jn [47] (namesOf (q :: r)) ≠ [] := by
        cases r with
        | nil => exact hq
        | cons a r =>
          show (q.1 ++ q.2) ++ [47] ++ _ ≠ []
          simp
      exact this e2
theorem rows_gn {m : Nat} {D : List Oct} {i : Nat} {s : LS} (h : PI m D i s) : ∀ q ∈ rowsOf s, GN q := fun q hq => by
  unfold rowsOf at hq
  split at hq
  · rw [List.mem_singleton.mp hq]; exact gn_dot
  · exact (rows0_gn h q hq).1
theorem bn_names (k : Nat) {N : List Oct} (h : ∀ n ∈ N, WN n) : bn (sl k ++ jn [47] N) = N.getLastD [] := by
  rcases snoc_cases N with rfl | ⟨N', n, rfl⟩
  · rw [show jn [47] [] = ([] : Oct) from rfl, List.append_nil]
    have := bn_pre (n := []) (endS_sl k) (by simp)
    rw [List.append_nil] at this
    rw [this]; rfl
  · have hw := wf_mkl _ h
    have e := zr_mkl (N' ++ [n])
    rw [← ssp_mkl, ← e]
    rw [mkl_snoc] at hw ⊢
    rw [(up_name (m := k) hw).2.1]; simp
theorem jn_head {N : List Oct} (h : ∀ n ∈ N, WN n) : ∀ r, jn [47] N ≠ 47 :: r := by
  rw [← ssp_mkl]; exact ssp_head (wf_mkl N h)
end Mine
end
section
open PySem PySem.W PyProof.Rows PySem.Calls PySem.SeqAt
set_option Elab.async false
set_option linter.unusedVariables false
set_option maxRecDepth 100000
namespace Mine
theorem cmn_symm : ∀ (a b : List Oct), cmn a b = cmn b a
  | [], [] => rfl
  | [], _ :: _ => rfl
  | _ :: _, [] => rfl
  | x :: a, y :: b => by
    unfold cmn
    by_cases h : x = y
    · rw [if_pos h, if_pos h.symm, cmn_symm a b, h]
    · rw [if_neg h, if_neg (fun e => h e.symm)]
theorem emb_inj : ∀ {a b : List Oct}, emb a = emb b → a = b
  | [], [], _ => rfl
  | [], _ :: _, h => nomatch h
  | _ :: _, [], h => nomatch h
  | x :: a, y :: b, h => by
    injection h with h1 h2
    rw [map_toNat_inj h1, emb_inj h2]
theorem cpRows_two (p q : Oct) : cpRows p [q] = cmn (rowOf p) (rowOf q) := by
  show cmn (minS (rowOf p) (rowOf q)) (maxS (rowOf p) (rowOf q)) = _
  generalize rowOf p = A
  generalize rowOf q = B
  unfold minS maxS
  by_cases h1 : ltL B A = true
  · rw [if_pos h1]
    have h2 : ltL A B = false := by
      rw [ltL_eq, decide_eq_true_iff] at h1
      rw [ltL_false]; exact Std.le_of_lt h1
    rw [if_neg (by rw [h2]; decide)]
    exact cmn_symm B A
  · rw [if_neg h1]
    by_cases h2 : ltL A B = true
    · rw [if_pos h2]
    · rw [if_neg h2]
      have e1 := (ltL_false B A).mp (by simpa using h1)
      have e2 := (ltL_false A B).mp (by simpa using h2)
      rw [emb_inj (Std.le_antisymm e1 e2)]
theorem rowOf_names (k : Nat) {N : List Oct} (h : ∀ n ∈ N, WN n) : rowOf (sl k ++ jn [47] N) = N.filter (· != [46]) := by
  unfold rowOf
  have e : (fun c : Oct => !c.isEmpty && c != [46]) = fun c => (c != [46]) && !c.isEmpty := by funext c; rw [Bool.and_comm]
  rw [e, ← List.filter_filter]
  congr 1
  rw [spl_sl, ← ssp_mkl, spl_ssp _ (wf_mkl N h), nms_mkl]
theorem gn_inj {p q : Oct × Oct} (hp : GN p) (hq : GN q) (h : p.1 ++ p.2 = q.1 ++ q.2) : p = q := by
  rw [← hp.sx, ← hq.sx, h]
theorem lcN_cmn : ∀ (a b : List (Oct × Oct)), (∀ q ∈ a, GN q ∧ q ≠ ([46], [])) → (∀ q ∈ b, GN q) → lcN a b = cmn (namesOf a) (namesOf b)
  | [], [], _, _ => rfl
  | [], _ :: _, _, _ => rfl
  | _ :: _, [], _, _ => rfl
  | x :: a, y :: b, ha, hb => by
    show (if x = y ∧ x ≠ ([46], []) then (x.1 ++ x.2) :: lcN a b else []) = (if x.1 ++ x.2 = y.1 ++ y.2 then (x.1 ++ x.2) :: cmn (namesOf a) (namesOf b) else [])
    obtain ⟨hx, hx'⟩ := ha x List.mem_cons_self
    have hy := hb y List.mem_cons_self
    by_cases h : x = y
    · rw [if_pos ⟨h, hx'⟩, if_pos (by rw [h]), lcN_cmn a b (fun q hq => ha q (List.mem_cons_of_mem _ hq)) (fun q hq => hb q (List.mem_cons_of_mem _ hq))]
    · rw [if_neg (fun e => h e.1), if_neg (fun e => h (gn_inj hx hy e))]
theorem filter_dot {l : List (Oct × Oct)} (h : ∀ q ∈ l, GN q ∧ q ≠ ([46], [])) : (namesOf l).filter (· != [46]) = namesOf l := by
  refine List.filter_eq_self.mpr fun n hn => ?_
  obtain ⟨q, hq, rfl⟩ := List.mem_map.mp hn
  obtain ⟨h1, h2⟩ := h q hq
  have : q.1 ++ q.2 ≠ [46] := fun e => h2 (gn_inj h1 gn_dot (by rw [e]; rfl))
  simpa using this
/-- a list of names that may be a lone dot -/
noncomputable def Dotted (l : List (Oct × Oct)) : Prop := (∀ q ∈ l, GN q ∧ q ≠ ([46], [])) ∨ l = [([46], [])]
theorem lcN_rows {a b : List (Oct × Oct)} (ha : Dotted a) (hb : Dotted b) : lcN a b = cmn ((namesOf a).filter (· != [46])) ((namesOf b).filter (· != [46])) := by
  have e0 : (namesOf [(([46] : Oct), ([] : Oct))]).filter (· != [46]) = [] := by decide
  have c0 : ∀ x : List Oct, cmn x [] = [] := fun x => by cases x <;> rfl
  rcases ha with ha | rfl
  · rcases hb with hb | rfl
    · rw [filter_dot ha, filter_dot hb]
      exact lcN_cmn a b ha fun q hq => (hb q hq).1
    · rw [e0, c0]
      cases a with
      | nil => rfl
      | cons x a =>
        have := (ha x List.mem_cons_self).2
        show (if x = ([46], []) ∧ x ≠ ([46], []) then _ else []) = _
        rw [if_neg (fun e => e.2 e.1)]
  · rw [e0]
    cases b with
    | nil => rfl
    | cons y b =>
      show (if (([46], []) : Oct × Oct) = y ∧ (([46], []) : Oct × Oct) ≠ ([46], []) then _ else []) = cmn [] _
      rw [if_neg (fun e => e.2 rfl)]
      cases ((namesOf (y :: b)).filter (· != [46])) <;> rfl
theorem rows_dotted {m : Nat} {D : List Oct} {i : Nat} {s : LS} (h : PI m D i s) : Dotted (rowsOf s) := by
  unfold rowsOf
  split
  · exact .inr rfl
  · exact .inl (rows0_gn h)
theorem right_of {m : Nat} {D : List Oct} {i : Nat} {s : LS} {b : BF} (h : PI m D i s) (hb : BOk b) : Right b.p b.r b.l (thereOf s) := by
  obtain ⟨hrc, hcc, l, h1, h2, h3⟩ := crooked_read h
  obtain ⟨k, hk, er, hk0⟩ := rootOf_sl h.m3
  have hpl := plain_eq h
  have hgn := rows_gn h
  have hwn := names_wn hgn
  have hroot : s.root = sl k := h.root.trans er
  have hpl' : np (crookedOf s) = sl k ++ jn [47] (namesOf (rowsOf s)) := by rw [hpl, er]
  have hr0 : (sl k == []) = decide (k = 0) := by
    by_cases e : k = 0
    · subst e; rfl
    · have : sl k ≠ [] := fun z => e (sl_nil.mp z)
      simp [this, e]
  have habs : rooted (np (crookedOf s)) = !(s.root == []) := by
    rw [hpl', rooted_sl (jn_head hwn), hroot, hr0, ← decide_not]
  refine ⟨?_, ?_, ?_, habs, ?_, hrc, ?_, hcc, ?_⟩
  · show np (crookedOf s) = s.root ++ _
    rw [hpl, h.root]; rfl
  · show readOf (np (crookedOf s)) = (s.root, rowsOf s)
    rw [hpl', hroot, ← ssp_mkl, ← zr_mkl]
    exact read_zr k _ _ _ rfl (wf_mkl _ hwn) (nms_mkl _) hgn
  · show jos s.root (namesOf (rowsOf s)) = np (crookedOf s)
    rw [hpl', hroot, jos_names k _ _ rfl hwn]
  · show bn (np (crookedOf s)) = _
    rw [hpl', bn_names k hwn]; rfl
  · show rooted (crookedOf s) = !(s.root == [])
    rw [h2, rooted_sl (ssp_head h1), hroot, hr0, ← decide_not]
    congr 1
    rw [eq_iff_iff]
    exact ⟨fun e z => e (hk0.mp z), fun e z => e (hk0.mpr z)⟩
  · obtain ⟨m', e1, e2, e3, e4⟩ := hb.ok
    have hbd : Dotted b.l := by
      rcases e4 with e4 | ⟨_, e4⟩
      · exact .inl fun q hq => ⟨e3 q hq, e4 q hq⟩
      · exact .inr e4
    have hbw := names_wn e3
    have hm0 : (sl m' == []) = decide (m' = 0) := by
      by_cases e : m' = 0
      · subst e; rfl
      · have : sl m' ≠ [] := fun z => e (sl_nil.mp z)
        simp [this, e]
    have hrb : rooted b.p = !(b.r == []) := by rw [e2, rooted_sl (jn_head hbw), e1, hm0, ← decide_not]
    show (if rooted b.p = rooted (np (crookedOf s)) then some (cpOf (rooted b.p) b.p [np (crookedOf s)]) else none) = lcOf b.r s.root b.l (rowsOf s)
    unfold lcOf
    rw [hrb, habs]
    by_cases hrr : (b.r == []) = (s.root == [])
    · rw [if_pos (by rw [hrr]), if_neg (by rw [hrr]; simp)]
      congr 1
      unfold cpOf
      rw [cpRows_two, e2, hpl', rowOf_names m' hbw, rowOf_names k hwn, lcN_rows hbd (rows_dotted h), hrr]
      congr 1
      by_cases hs : s.root = []
      · rw [if_pos hs, if_neg (by simp [hs])]
      · rw [if_neg hs, if_pos (by simp [hs])]
    · rw [if_neg, if_pos]
      · simpa using hrr
      · intro e
        apply hrr
        cases h1 : (b.r == []) <;> cases h2 : (s.root == []) <;> simp_all
end Mine
end
section
open PySem PySem.W PyProof.Rows PySem.Calls PySem.SeqAt
set_option Elab.async false
set_option linter.unusedVariables false
set_option maxRecDepth 100000
namespace Mine
theorem tot_append (a b : List Oct) : tot (a ++ b) = tot a + tot b := by unfold tot; simp [List.sum_append]
theorem tot_rep (k : Nat) (x : Oct) : tot (List.replicate k x) = k * (x.length + 1) := by unfold tot; simp
theorem rows_tot' {m : Nat} {D : List Oct} {i : Nat} {s : LS} (h : PI m D i s) (hi : i ≤ 25) : tot (namesOf (rowsOf s)) ≤ 250 := by
  have h8 := h.z8
  have h9 := h.z9
  unfold rowsOf
  split
  · decide
  · unfold rows0
    rw [names_append, names_rep, tot_append, tot_rep]
    simp; omega
theorem parts_tot {m : Nat} {D : List Oct} {i : Nat} {s : LS} (h : PI m D i s) (hi : i ≤ 25) : tot (partsOf s) ≤ 6000 := by
  have hp := partOf_len h hi
  have h2 := h.z2
  have h10 := h.z10
  have hj := jn_len (List.replicate s.deep ([46, 46] : Oct))
  rw [tot_rep] at hj
  simp at hj
  unfold partsOf
  rw [tot_snoc, tot_snoc]
  omega
theorem crooked_len {m : Nat} {D : List Oct} {i : Nat} {s : LS} (h : PI m D i s) (hi : i ≤ 25) : (crookedOf s).length ≤ 6000 := by
  have ht := parts_tot h hi
  unfold crookedOf
  have hne : partsOf s ≠ [] := by unfold partsOf; simp
  obtain ⟨a, ps, e⟩ := List.exists_cons_of_ne_nil hne
  rw [e] at ht ⊢
  rw [tot_cons] at ht
  have := jos_len ps a
  show (jos a ps).length ≤ _
  omega
theorem spelled_tot {m : Nat} {D : List Oct} {i : Nat} {s : LS} (h : PI m D i s) (hi : i ≤ 25) : tot (namesOf (spelledOf s)) ≤ 250 := by
  have h7 := h.z7
  have h10 := h.z10
  have e1 : tot (namesOf (s.spelled ++ List.replicate s.deep up2)) ≤ 225 := by
    rw [names_append, names_rep, tot_append, tot_rep]; simp; omega
  unfold spelledOf
  dsimp only
  split
  · rw [namesOf_snoc, tot_snoc]; simp; omega
  · omega
theorem plain_len {m : Nat} {D : List Oct} {i : Nat} {s : LS} (h : PI m D i s) (hi : i ≤ 25) : (np (crookedOf s)).length ≤ 252 := by
  obtain ⟨k, hk, er, _⟩ := rootOf_sl h.m3
  have hj := jn_len (namesOf (rowsOf s))
  have := rows_tot' h hi
  rw [plain_eq h, er, List.length_append]
  simp [sl]; omega
theorem right_sz {m : Nat} {D : List Oct} {i : Nat} {s : LS} {b : BF} (h : PI m D i s) (hi : i ≤ 25) (hb : BOk b) : RightSz b.p b.l (thereOf s) := by
  have h1 := hb.z1
  have h2 := hb.z2
  have h3 := tot_length (namesOf b.l)
  have h4 : (namesOf b.l).length = b.l.length := List.length_map _
  have h5 := plain_len h hi
  have h6 := crooked_len h hi
  have h7 := rows_tot' h hi
  have h8 := spelled_tot h hi
  refine ⟨by omega, by omega, by omega, ?_, ?_, ?_, ?_⟩
  · show (np (crookedOf s)).length ≤ _; omega
  · show (crookedOf s).length ≤ _; omega
  · show tot (namesOf (rowsOf s)) ≤ _; omega
  · show tot (namesOf (spelledOf s)) ≤ _; omega
theorem bok_of {m : Nat} {D : List Oct} {i : Nat} {s : LS} (h : PI m D i s) (hi : i ≤ 25) : BOk (bfOf (thereOf s)) := by
  obtain ⟨k, hk, er, hk0⟩ := rootOf_sl h.m3
  have h5 := plain_len h hi
  have h7 := rows_tot' h hi
  refine ⟨⟨k, h.root.trans er, ?_, rows_gn h, ?_⟩, ?_, ?_⟩
  · show np (crookedOf s) = _
    rw [plain_eq h, er]; rfl
  · show (∀ q ∈ rowsOf s, q ≠ ([46], [])) ∨ (k = 0 ∧ rowsOf s = [([46], [])])
    unfold rowsOf
    by_cases hc : rows0 s = [] ∧ s.root = []
    · rw [if_pos hc]
      exact .inr ⟨sl_nil.mp ((h.root.trans er).symm.trans hc.2), rfl⟩
    · rw [if_neg hc]
      exact .inl fun q hq => (rows0_gn h q hq).2
  · show (np (crookedOf s)).length ≤ _; omega
  · show tot (namesOf (rowsOf s)) ≤ _; omega
end Mine
end
section
open PySem PySem.W PyProof.Rows PySem.Calls PySem.SeqAt
set_option Elab.async false
set_option linter.unusedVariables false
set_option linter.unusedSectionVars false
set_option maxRecDepth 100000
namespace Mine
/-- one turn of the law -/
noncomputable def stL (st : LS × BF) (x : Int) : LS × BF :=
  if x % 8 = 0 then (nextS st.1 ((x.natAbs : Int) / 8), bfOf (thereOf st.1)) else (pieceS st.1 ((x.natAbs : Int) % 8) ((x.natAbs : Int) / 8), st.2)
noncomputable def PInv (i : Nat) (st : LS × BF) : Prop := (∃ m D, PI m D i st.1) ∧ BOk st.2
noncomputable def stA (xs : List Int) (i : Nat) : LS × BF := (xs.take i).foldl stL (LS0, b0)
theorem stA_succ {xs : List Int} {i : Nat} {x : Int} (h : xs[i]? = some x) : stA xs (i + 1) = stL (stA xs i) x := by
  have : xs.take (i + 1) = xs.take i ++ [x] := by rw [List.take_add_one, h]; rfl
  unfold stA
  rw [this, List.foldl_append]; rfl
theorem pinv_step {i : Nat} {st : LS × BF} (h : PInv i st) (hi : i < 25) (x : Int) : PInv (i + 1) (stL st x) := by
  obtain ⟨⟨m, D, hp⟩, hb⟩ := h
  unfold stL
  split
  · exact ⟨pi_next hp hi _, bok_of hp (by omega)⟩
  · rename_i hx
    obtain ⟨D', hp'⟩ := pi_piece hp ((x.natAbs : Int) % 8) ((x.natAbs : Int) / 8) (by omega)
    exact ⟨⟨m, D', hp'⟩, hb⟩
theorem pinv_all (xs : List Int) (hx : xs.length ≤ 25) : ∀ i, i ≤ xs.length → PInv i (stA xs i)
  | 0, _ => ⟨⟨0, [], pi0⟩, bok0⟩
  | i + 1, hi => by
    have : xs[i]? = some xs[i] := List.getElem?_eq_getElem (by omega)
    rw [stA_succ this]
    exact pinv_step (pinv_all xs hx i (by omega)) (by omega) _
noncomputable def intsV (ns : List Int) : V := .list (ns.map V.int)
section
variable {g : Glo} (H : Has g pw)
include H
theorem law_body (ns : List Int) (hn : ns.length ≤ 63) : ∀ (name : Str) (params : Arguments) (body : List Stmt) (decs : List Expr) (ret : Option Expr) (tps : List TypeParam) (scope : Scope) (ts : Option Scope) (bind : Str) (pos : Pos),
    pw.main.body[36]? = some (.FunctionDef name params body decs ret tps scope ts bind pos) →
    ∃ σ', Ex g scope 11 body [("script", intsV ns)] [] (End (.bool true) σ') := by
  intro name params body decs ret tps scope ts bind pos h
  let xs : List Int := ns.take 24 ++ [0]
  have hxl : xs.length ≤ 25 := by
    show (ns.take 24 ++ [0]).length ≤ 25
    rw [List.length_append, List.length_take]; simp; omega
  have str : ∀ {n : Nat} (l : Oct) {x : Str} {kk : Nat} {p : Pos} {ρ : Loc} {σ : List MO} {sc : Scope}, x = S8 l → Ev g sc n (.Constant (.str x) kk p) ρ σ (.tx .s l) σ := fun l _ _ _ _ _ _ h => ev_str h
  refine ⟨[.dict (heldV (stA xs xs.length).1)], ?_⟩
  cases h
  refine ex_step (ex1_assign (ev_call 2 evl_nil (c_begin H))) ?_
  refine ex_step (ex1_assign (x := .tup [.tx .s [46], .tx .s [], prL [([46], [])]]) (ev_tuple (evl_cons (str [46] (by decide +kernel)) (evl_cons (str [] (by decide +kernel)) (evl_cons (ev_list (evl_cons (ev_tuple (evl_cons (str [46] (by decide +kernel)) (evl_cons (str [] (by decide +kernel)) evl_nil))) evl_nil)) evl_nil))))) ?_
  refine ex_forj (xs := xs.map V.int) (fun i => [("before", bfV (stA xs i).2), ("held", .cell 0)]) (fun i => [.dict (heldV (stA xs i).1)]) (fun _ => True) [] [.dict (heldV (stA xs xs.length).1)] (src_list (ev_eq (ev_bin (ev_slcL (l := ns.map V.int) ev_name evp_none (evp_some ev_int) (by rw [List.length_map]; omega)) (ev_list (evl_cons ev_int evl_nil)) (op_add_list (.inl rfl) (.inl rfl) (by have := psl_length (ns.map V.int) none (some 24); rw [List.length_map] at this; simp; omega))) ?_) (.inl rfl)) (sub_of ⟨rfl, rfl, trivial⟩) trivial (fun i y hy _ => ?_) (fun _ => ⟨?_, sub_of trivial⟩) ?_
  · have : psl (ns.map V.int) none (some 24) = (ns.map V.int).take 24 := psl_upto _ 24
    rw [this]
    show V.list ((ns.map V.int).take 24 ++ [V.int 0]) = V.list ((ns.take 24 ++ [0]).map V.int)
    rw [List.map_append, List.map_take]; rfl
  · rw [List.getElem?_map] at hy
    obtain ⟨x, hx, rfl⟩ := Option.map_eq_some_iff.mp hy
    have hi := (List.getElem?_eq_some_iff.mp hx).1
    obtain ⟨⟨m, D, hp⟩, hb⟩ := pinv_all xs hxl i (by omega)
    rw [stA_succ hx]
    generalize stA xs i = st at hp hb ⊢
    obtain ⟨s, b⟩ := st
    have hi25 : i ≤ 25 := by omega
    have z1 := hp.z1
    have z3 := hp.z3
    have z4 := hp.z4
    have z5 := hp.z5
    have z6 := hp.z6
    have z9 := hp.z9
    have z10 := hp.z10
    have hpt := parts_tot hp hi25
    have hfr : s.front.length ≤ 3 := by
      obtain ⟨k, hk, e⟩ := hp.fr
      rw [e]; simp [sl]; omega
    dsimp only at z1 z3 z4 z5 z6 z9 z10 hpt hfr
    refine ⟨_, asg_name, ?_⟩
    refine ex_if (evb_cmp (ev_bin ev_name ev_int (op_mod_int (by decide))) ev_int op_eq_int) (fun h => ?_) (fun h => ?_)
    · have h8 : x % 8 = 0 := by simpa using h
      have e : stL (s, b) x = (nextS s ((x.natAbs : Int) / 8), bfOf (thereOf s)) := by unfold stL; rw [if_pos h8]
      rw [e]
      have ht : Fn g 8 "_law_there" [.cell 0] [.dict (heldV s)] (thV (thereOf s)) [.dict (heldV s)] := c_there H (σ := [.dict (heldV s)]) s 0 (Nat.succ_pos _) (by omega) (by omega) (by omega) (by omega) (by omega) (by omega)
      have hn' : Fn g 5 "_law_next_part" [.cell 0, .int ((x.natAbs : Int) / 8)] [.dict (heldV s)] .none [.dict (heldV (nextS s ((x.natAbs : Int) / 8)))] := c_next H (σ := [.dict (heldV s)]) s ((x.natAbs : Int) / 8) 0 (Nat.succ_pos _) (by omega) (by omega)
      have hr := c_lright H (σ := [.dict (heldV s)]) b.p b.r b.l b.z (thereOf s) (right_of hp hb) (right_sz hp hi25 hb)
      refine ex_step (ex1_assign (ev_call 8 (evl_cons ev_name evl_nil) ht)) ?_
      refine ex_if (b := false) (evb_eq (evb_not (evb_val rfl (ev_call 10 (evl_cons ev_name (evl_cons ev_name evl_nil)) hr) tr_bool)) rfl) (fun h => nomatch h) (fun _ => ?_)
      refine ex_step (ex1_assign ev_name) ?_
      refine ex_step (ex1_expr (ev_call 5 (evl_cons ev_name (evl_cons (ev_bin (ev_blt (evl_cons ev_name evl_nil) op_abs) ev_int (op_div_int (by decide) (by decide))) evl_nil)) hn')) ?_
      exact ex_nil (.nx trivial (sub_of ⟨rfl, rfl, trivial⟩))
    · have h8 : ¬ x % 8 = 0 := by simpa using h
      have e : stL (s, b) x = (pieceS s ((x.natAbs : Int) % 8) ((x.natAbs : Int) / 8), b) := by unfold stL; rw [if_neg h8]
      rw [e]
      have hn' : Fn g 5 "_law_piece" [.cell 0, .int ((x.natAbs : Int) % 8), .int ((x.natAbs : Int) / 8)] [.dict (heldV s)] .none [.dict (heldV (pieceS s ((x.natAbs : Int) % 8) ((x.natAbs : Int) / 8)))] := c_piece H (σ := [.dict (heldV s)]) s ((x.natAbs : Int) % 8) ((x.natAbs : Int) / 8) 0 (Nat.succ_pos _) (by omega) (by omega) (by omega)
      refine ex_step (ex1_expr (ev_call 5 (evl_cons ev_name (evl_cons (ev_bin (ev_blt (evl_cons ev_name evl_nil) op_abs) ev_int (op_mod_int (by decide))) (evl_cons (ev_bin (ev_blt (evl_cons ev_name evl_nil) op_abs) ev_int (op_div_int (by decide) (by decide))) evl_nil))) hn')) ?_
      exact ex_nil (.nx trivial (sub_of ⟨rfl, rfl, trivial⟩))
  · rw [List.length_map]
  · exact ex_ret ev_bool ret_end
end
end Mine
end
section
open PySem PySem.W PyProof.Rows PySem.Calls PySem.SeqAt
set_option Elab.async false
set_option linter.unusedVariables false
set_option linter.unusedSectionVars false
set_option maxRecDepth 100000
namespace Mine
noncomputable def R0 (hb : Heap) : RS := ⟨fun b o => hb.get? b = some o, fun _ _ => False⟩
noncomputable def P0 (hb : Heap) : PS := fun b o => hb.get? b = some o
theorem Inv.start {g : Glo} {L : Addr} {s₀ s : Shared} {env' : Env} {sc : Scope} {binds : List (Str × Value)} {ρ' : Loc} (h0 : s₀.heap = g.hb) (he : env'.scope = sc) (hL : env'.locals = L) (hc : env'.cells = cellsFrom (s₀.heap.objs.size + 1) sc.names [])
    (hl : L = s₀.heap.objs.size)
    (x : InCallC s₀ L (bindL env'.kindOf binds fun _ => none) env'.cells (bindC env'.kindOf binds fun _ => none) s) (hb : Binds g (P0 g.hb) [] binds ρ') (hv : ∀ b ∈ binds, isVar sc b.1 = true) :
    Inv g (R0 g.hb) (P0 g.hb) [] env' ρ' [] s.heap := by
  have keep : ∀ b o, g.hb.get? b = some o → s.heap.get? b = some o := fun b o e => x.toInCall.keep b o (by rw [h0]; exact e)
  have new : ∀ a, slot env' a → g.hb.get? a = none := by
    intro a ha
    cases e : g.hb.get? a with
    | none => rfl
    | some o =>
      have hlt := Heap.lt_size e
      rw [← h0] at hlt
      rcases ha with rfl | ⟨z, hz, hzc⟩
      · rw [hL, hl] at hlt; exact absurd hlt (Nat.lt_irrefl _)
      · have := x.above z a (mem_of_lookup hzc)
        rw [hl] at this
        exact absurd (Nat.lt_trans hlt this) (Nat.lt_irrefl _)
  have cel : ∀ z, env'.kindOf z = some .cell → ∃ c, env'.cells.lookup z = some c := by
    intro z hz
    have : (env'.cells.lookup z).isSome = true := by
      rw [hc]
      refine cellsFrom_some _ _ _ (.inr (mem_of_lookup ?_))
      rw [← he]; exact hz
    exact Option.isSome_iff_exists.mp this
  refine
  { keepR := fun b o r => keep _ _ r, keepU := fun b o u => u.elim, part := fun b o o' _ u => u.elim, keepP := fun b o p => keep _ _ p, base := fun b o e => e, sep := fun b o o' p _ => ⟨o, p⟩, loc := ?_, cel := ?_, one := ?_, nloc := ?_, offP := ?_, offR := ?_, offD := fun a _ hd => by simp at hd, dP := fun a o hd => by simp at hd, dR := fun a o hd => by simp at hd, dN := List.nodup_nil, len := rfl, objs := fun i a o h1 => by simp at h1 }
  · refine ⟨_, by rw [hL]; exact x.toInCall.ns, fun z y hz => ?_⟩
    obtain ⟨v, hm, hsv⟩ := hb.sees z y hz
    refine ⟨v, hsv, ?_⟩
    rcases isVar_kind (hv _ hm) with hk | hk
    · have hk' : env'.kindOf z = some .local := by show env'.scope.names.lookup z = _; rw [he]; exact hk
      exact .inl ⟨hk', bindL_at _ _ hb.nodup hm hk'⟩
    · have hk' : env'.kindOf z = some .cell := by show env'.scope.names.lookup z = _; rw [he]; exact hk
      obtain ⟨c, hcz⟩ := cel z hk'
      refine .inr (.inl ⟨hk', c, hcz, ?_⟩)
      have := x.cell z c hcz
      rwa [bindC_at _ _ hb.nodup hm hk'] at this
  · intro z hz
    obtain ⟨c, hcz⟩ := cel z hz
    exact ⟨c, _, hcz, x.cell z c hcz⟩
  · intro z y c hz hy hzc hyc
    exact name_of_addr x.apart (mem_of_lookup hzc) (mem_of_lookup hyc)
  · intro z hz e
    have := x.above z _ (mem_of_lookup e)
    rw [hL] at this
    exact Nat.lt_irrefl _ this
  · intro a o ha p
    have p : g.hb.get? a = some o := p
    rw [new a ha] at p; cases p
  · intro a o ha q
    rcases q with q | q
    · have q : g.hb.get? a = some o := q
      rw [new a ha] at q; cases q
    · exact q
/-- a def, called from outside -/
theorem call_top {g : Glo} {n : Nat} {name : Str} {params : Arguments} {body : List Stmt} {scope : Scope} {pos : Pos} {args : List V} {vs : List Value} {s : Shared} {x : V} {σ' : List MO} {Q : Value → Shared → Prop} {E : Value → Shared → Prop} {a : Addr} (names : List Str)
    (hd : (⟨name, params, body, scope, pos⟩ : DefRec) ∈ recsOf g.p) (h0 : s.heap = g.hb) (ha : g.mg name = some (.ref a)) (hbind : ∀ pm cd doc vs, vs.length = args.length → bindArgs (docDef name params body scope pm cd doc) ⟨vs, []⟩ = pure (names.zip vs))
    (hvs : g.SeesL (P0 g.hb) [] vs args) (hbody : Ex g scope n body (names.zip args) [] (End x σ')) (hq : ∀ v P' δ' h' tk', (∀ b o, g.hb.get? b = some o → h'.get? b = some o) → g.Sees P' δ' v x → Q v { s with heap := h', toks := tk' })
    (hl : names.length = args.length := by rfl) (hn : names.Nodup := by decide +kernel) (hv : names.all (isVar scope) = true := by decide +kernel) (hco : scope.isCoroutine = false := by rfl) (hgen : scope.isGenerator = false := by rfl) (hk : scope.kind = .function := by rfl) (hm : n ≤ 100 := by decide) :
    wpAny (model g.prog g.w) callerA (call (.ref a) vs) Q E s := by
  obtain ⟨a', o, pm, code, doc, h1, h2, h3, h4⟩ := g.top.fn _ hd
  rw [ha] at h1
  cases h1
  have keepB : ∀ b o, g.hb.get? b = some o → s.heap.get? b = some o := fun b o e => by rw [h0]; exact e
  have hroom : callerA.depth < recursionLimit := by decide
  refine wpAny_call (codeAny_call_function hroom (keepB _ _ h2) h3 hco hgen rfl (h4.keeps keepB) ?_)
  have hlen := hvs.length
  rw [show bindArgs _ _ = _ from hbind pm code doc vs hlen]
  refine wpAny_pure ?_
  have hvar : ∀ b ∈ names.zip vs, isVar scope b.1 = true := fun b hb => List.all_eq_true.mp hv _ (List.of_mem_zip hb).1
  refine wpAny_newFunctionEnv_cells hk (fun b hb => ?_) (fun env' he s' x => ?_)
  · rcases isVar_kind (hvar b hb) with hk | hk
    · exact .inl hk
    · exact .inr ⟨hk, cellsFrom_some _ _ _ (.inr (mem_of_lookup hk))⟩
  · subst he
    refine ⟨g.top.nolimit.keeps fun b o e => x.toInCall.keep b o (keepB _ _ e), codeAny_func ?_⟩
    have e1 : (names.zip vs).map (·.1) = names := List.map_fst_zip (by omega)
    have e2 : (names.zip args).map (·.1) = names := List.map_fst_zip (by omega)
    have e3 : (names.zip args).map (·.2) = args := List.map_snd_zip (by omega)
    have hbs : Binds g (P0 g.hb) [] (names.zip vs) (names.zip args) := ⟨by rw [e1]; exact hn, fun z y e => by
      have := zip_sees (names.zip args) (by rw [e3]; exact hvs) e
      rwa [e2] at this⟩
    have J := Inv.start (g := g) (sc := scope) (L := s.heap.objs.size) (s₀ := s) h0 rfl rfl rfl rfl x hbs hvar
    obtain ⟨hh₂, tk₂, rfl⟩ := x.toInCall.same
    refine wpAny_mono (hbody.run _ _ (R0 g.hb) (P0 g.hb) [] { s with heap := hh₂, toks := tk₂ } (fun f s' => Q (match f with | .ret v => v | _ => .none) s') ⟨rfl, hk, rfl, rfl⟩ ⟨rfl, ?_, ?_, ⟨[_], _, rfl, rfl, .inl rfl, ⟨_, _, rfl, rfl⟩, fun e he => ?_⟩⟩ J ?_) (fun _ _ z => z) no_e
    · show 1 + claimMargin + 1 + n ≤ 900
      have : claimMargin = 300 := rfl
      omega
    · show 4 + 3 + 20 * n ≤ 9000
      omega
    · rw [List.mem_singleton.mp he]
      exact ⟨by show scope.kind ≠ _; rw [hk]; decide, _, rfl, .inl rfl⟩
    · rintro o (rfl | ⟨rfl, r, rfl⟩)
      · intro v P' δ' h' tk' le' pr' J' hs
        exact hq v P' δ' h' tk' (fun b o e => J'.keepR b o e) hs
      · intro P' δ' h' tk' le' pr' J'
        exact hq .none P' δ' h' tk' (fun b o e => J'.keepR b o e) .none
end Mine
end
section
open PySem PySem.W PyProof.Rows
set_option Elab.async false
namespace Mine
noncomputable def DefsInT (pr q : Program) : Prop := ∀ (i : Nat) (name : Str) (params : Arguments) (body : List Stmt) (decs : List Expr) (ret : Option Expr) (tps : List TypeParam) (scope : Scope) (ts : Option Scope) (bind : Str) (pos : Pos),
    pr.main.body[i]? = some (.FunctionDef name params body decs ret tps scope ts bind pos) → 9 ≤ i → (⟨name, params, body, scope, pos⟩ : DefRec) ∈ recsOf q
/-- a statement's def -/
noncomputable def defOf : Stmt → Option DefRec
  | .FunctionDef name params body _ _ _ scope _ _ pos => some ⟨name, params, body, scope, pos⟩
  | _ => none
theorem defs_in {pr q : Program} (h : (pr.main.body.drop 9).filterMap defOf = (recsOf q).drop 4) : DefsInT pr q := by
  intro i name params body decs ret tps scope ts bind pos h1 h2
  have hm : (⟨name, params, body, scope, pos⟩ : DefRec) ∈ (pr.main.body.drop 9).filterMap defOf := by
    refine List.mem_filterMap.mpr ⟨.FunctionDef name params body decs ret tps scope ts bind pos, List.mem_of_getElem? (i := i - 9) ?_, rfl⟩
    rw [List.getElem?_drop, show 9 + (i - 9) = i by omega]; exact h1
  rw [h] at hm
  exact List.mem_of_mem_drop hm
end Mine
end
section
open PySem PySem.W PyProof.Rows PySem.Calls PySem.SeqAt
set_option Elab.async false
set_option linter.unusedVariables false
set_option linter.unusedSectionVars false
set_option maxRecDepth 100000
namespace Mine
noncomputable def FreeIn (q : Program) (loose : List Str) (x : Str) : Prop := x ∉ startupNames ∧ x ∉ loose ∧ x ∉ (recsOf q).map (·.name) ∧ x ∉ (litsOf q).map (·.1) ∧ x ∉ (clssOf q loose).map (·.name)
theorem law_walk {q : Program} {loose : List Str} {XP : (Str → Option Value) → Heap → Prop} {YP : World → Heap → Prop} (hdefs : DefsInT pw q) (hfree : ∀ x ∈ bltNames, FreeIn q (looseW q loose) x)
    {name : Str} {params : Arguments} {body : List Stmt} {decs : List Expr} {ret : Option Expr} {tps : List TypeParam} {scope : Scope} {ts : Option Scope} {bind : Str} {pos : Pos} (h36 : pw.main.body[36]? = some (.FunctionDef name params body decs ret tps scope ts bind pos)) :
    WalkO q loose XP YP PySem.Challenge.rw_il0031_02.row.toRowW ⟨name, params, body, scope, pos⟩ [] fun f vs => PySem.call f vs := by
  intro w s₀ s₁ mg mb G Y a o pm cd doc dV kV ho hd hcd hD hmg hgn args vals as hpre hlay hrd hwl hlo
  have T := G.T
  let g : Glo := ⟨PySem.Challenge.rw_il0031_02.row.toRowW.prog, w, q, looseW q loose, _, mg, mb, s₁.heap, T⟩
  have H : Has g pw := ⟨hdefs, fun x hx => let ⟨h1, h2, h3, h4, h5⟩ := hfree x hx; T.free x h1 h2 h3 h4 h5⟩
  wrow_args hpre hlay hrd hwl hlo
  rename_i ns hs hlay0 hLy hr1 hl2 w4 w3 l vs as' hL ra w1 r0 hI hr hc1 hc2
  have hn : ns.length ≤ 63 := by omega
  obtain ⟨σ', hx⟩ := law_body H ns hn name params body decs ret tps scope ts bind pos h36
  have hseen : g.SeesL (P0 g.hb) [] [.ref l] [intsV ns] := by
    refine .cons ?_ .nil
    obtain ⟨ol, hol, hcl, n, hdl⟩ := hL
    refine .mkList hol hcl hdl ⟨by rw [List.length_map]; exact hI.length, fun i v x hv hx => ?_⟩
    rw [List.getElem?_map] at hx
    obtain ⟨k, hk, rfl⟩ := Option.map_eq_some_iff.mp hx
    obtain ⟨t, rfl⟩ := hI.int_at i v hv
    rw [List.getD_eq_getElem?_getD, hk]
    exact .int k t
  have hres : ∀ v (P' : PS) (δ' : List Addr) (h' : Heap) (tk' : Nat), (∀ b o, g.hb.get? b = some o → h'.get? b = some o) → g.Sees P' δ' v (.bool true) →
      GoodWG PySem.Challenge.rw_il0031_02.row.claim (classAt s₀.heap) (ExcName.means s₀.heap) [ofPy (PyData.list (List.map PyData.int ns))] s₁ (.ok (.ret v)) { s₁ with heap := h', toks := tk' } := by
    intro v P' δ' h' tk' hk hv
    obtain rfl := hv.tells
    refine GoodW.toG ⟨.inl ⟨_, .bool true, [], rfl, ?_, .bool true, ?_, fun _ => ⟨List.nodup_nil, fun a ha => by simp at ha⟩⟩, hk, rfl, hgn⟩
    · intro cls; rfl
    · exact postW_of (by wrow_shape) (by wtm_val) (by w_fin)
  have hd36 := hdefs 36 name params body decs ret tps scope ts bind pos h36 (by decide)
  cases h36
  exact call_top (g := g) (n := 11) ["script"] hd36 rfl hmg (fun _ _ _ vs h => by obtain ⟨_, rfl⟩ := vlen1 h; rfl) hseen hx hres
end Mine
end
section
open PySem PySem.W PyProof.Rows
set_option Elab.async false
set_option maxRecDepth 100000 in
set_option maxHeartbeats 8000000 in
theorem PySem.Challenge.cw_il0031_02_holds : PySem.Challenge.rw_il0031_02.Holds := by
  w_on
  o_law
  o_head Hook.none
  case hw => w_witness2
  case hc =>
    refine Mine.law_walk (Mine.defs_in (by kernel_rfl)) ?_ (by rfl)
    unfold Mine.FreeIn; decide +kernel
#print axioms PySem.Challenge.cw_il0031_02_holds
end

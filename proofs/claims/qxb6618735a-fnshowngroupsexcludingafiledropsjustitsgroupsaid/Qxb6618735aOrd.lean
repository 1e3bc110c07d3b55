/- seat b6618735a: the order by which groups are sorted: a strict weak order, ties broken by the start: plain lists alone -/
import Derived.WalkKit
namespace Go.Proofs.Qxb6618735a

/-- a strict weak order, as a test -/
structure Swo (lt : Nat → Nat → Bool) : Prop where
  asym : ∀ x y, lt x y = true → lt y x = false
  ntr : ∀ x y z, lt x y = false → lt y z = false → lt x z = false

/-- before: less, or tied and earlier -/
def Tlt (lt : Nat → Nat → Bool) (x y : Nat) : Prop := lt x y = true ∨ (lt y x = false ∧ x < y)

theorem Tlt.trans {lt : Nat → Nat → Bool} (o : Swo lt) {x y z : Nat} (h1 : Tlt lt x y) (h2 : Tlt lt y z) : Tlt lt x z := by
  rcases h1 with h1 | ⟨h1, l1⟩ <;> rcases h2 with h2 | ⟨h2, l2⟩
  · left
    cases h : lt x z with
    | true => rfl
    | false =>
      have := o.ntr x z y h (o.asym y z h2)
      rw [h1] at this; cases this
  · left
    cases h : lt x z with
    | true => rfl
    | false =>
      have := o.ntr x z y h h2
      rw [h1] at this; cases this
  · left
    cases h : lt x z with
    | true => rfl
    | false =>
      have := o.ntr y x z h1 h
      rw [h2] at this; cases this
  · exact .inr ⟨o.ntr z y x h2 h1, by omega⟩

theorem Tlt.irr {lt : Nat → Nat → Bool} (o : Swo lt) {x : Nat} (h : Tlt lt x x) : False := by
  rcases h with h | ⟨_, h⟩
  · have := o.asym x x h; rw [h] at this; cases this
  · omega
theorem Tlt.asymm {lt : Nat → Nat → Bool} (o : Swo lt) {x y : Nat} (h : Tlt lt x y) (h' : Tlt lt y x) : False := (h.trans o h').irr o
theorem Tlt.total {lt : Nat → Nat → Bool} (x y : Nat) (hne : x ≠ y) : Tlt lt x y ∨ Tlt lt y x := by
  cases h : lt x y with
  | true => exact .inl (.inl h)
  | false =>
    cases h' : lt y x with
    | true => exact .inr (.inl h')
    | false =>
      rcases Nat.lt_or_gt_of_ne hne with e | e
      · exact .inl (.inr ⟨h', e⟩)
      · exact .inr (.inr ⟨h, e⟩)
/-- of a later element y and an earlier x: less is before, not less is behind -/
theorem Tlt.of_lt {lt : Nat → Nat → Bool} {x y : Nat} (h : lt y x = true) : Tlt lt y x := .inl h
theorem Tlt.of_not {lt : Nat → Nat → Bool} {x y : Nat} (h : lt y x = false) (l : x < y) : Tlt lt x y := .inr ⟨h, l⟩

/-- sorted -/
def Sd (lt : Nat → Nat → Bool) (l : List Nat) : Prop := l.Pairwise (Tlt lt)

theorem Sd.append {lt : Nat → Nat → Bool} {l r : List Nat} (hl : Sd lt l) (hr : Sd lt r) (h : ∀ x, x ∈ l → ∀ y, y ∈ r → Tlt lt x y) : Sd lt (l ++ r) :=
  List.pairwise_append.2 ⟨hl, hr, h⟩
theorem Sd.left {lt : Nat → Nat → Bool} {l r : List Nat} (h : Sd lt (l ++ r)) : Sd lt l := (List.pairwise_append.1 h).1
theorem Sd.right {lt : Nat → Nat → Bool} {l r : List Nat} (h : Sd lt (l ++ r)) : Sd lt r := (List.pairwise_append.1 h).2.1
theorem Sd.cross {lt : Nat → Nat → Bool} {l r : List Nat} (h : Sd lt (l ++ r)) : ∀ x, x ∈ l → ∀ y, y ∈ r → Tlt lt x y := (List.pairwise_append.1 h).2.2

/-- two sorted lists of the same elements are one -/
theorem Sd.unique {lt : Nat → Nat → Bool} (o : Swo lt) : ∀ {l r : List Nat}, Sd lt l → Sd lt r → l.Perm r → l = r
  | [], r, _, _, p => by rw [List.Perm.nil_eq p]
  | a :: l, [], _, _, p => by have := p.length_eq; simp at this
  | a :: l, b :: r, hl, hr, p => by
    have ha : a ∈ b :: r := p.subset (by simp)
    have hb : b ∈ a :: l := p.symm.subset (by simp)
    have e : a = b := by
      by_cases e : a = b
      · exact e
      · exfalso
        have h1 : a ∈ r := by simpa [e] using ha
        have h2 : b ∈ l := by simpa [Ne.symm e] using hb
        have t1 := (List.pairwise_cons.1 hl).1 b h2
        have t2 := (List.pairwise_cons.1 hr).1 a h1
        exact t1.asymm o t2
    subst e
    rw [Sd.unique o (List.pairwise_cons.1 hl).2 (List.pairwise_cons.1 hr).2 (List.perm_cons a |>.1 p)]

/-- one element put in its place -/
theorem Sd.insert {lt : Nat → Nat → Bool} {l r : List Nat} {x : Nat} (h : Sd lt (l ++ r)) (hl : ∀ y, y ∈ l → Tlt lt y x) (hr : ∀ y, y ∈ r → Tlt lt x y) : Sd lt (l ++ [x] ++ r) := by
  refine Sd.append (Sd.append h.left (List.pairwise_singleton _ _) fun y hy z hz => ?_) h.right fun y hy z hz => ?_
  · simp at hz; subst hz; exact hl y hy
  · simp at hy
    rcases hy with hy | rfl
    · exact h.cross y hy z hz
    · exact hr z hz
end Go.Proofs.Qxb6618735a

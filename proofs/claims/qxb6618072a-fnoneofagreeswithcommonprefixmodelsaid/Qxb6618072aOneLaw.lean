/- seat b6618072a: the plain law of matchOneOf: verdicts over lists of bytes: 0 needs more, 1 matches, 2 does not match. No Go in sight -/
import Derived.WalkKit
namespace Go.Proofs.Qxb6618072a

/-- does xs begin with ys -/
def mp (xs ys : List Int) : Int := if xs.length < ys.length then (if ys.take xs.length = xs then 0 else 2) else (if xs.take ys.length = ys then 1 else 2)
/-- does xs begin with one of Ls -/
def one (xs : List Int) (Ls : List (List Int)) : Int := if Ls.any (fun L => mp xs L == 1) then 1 else if Ls.any (fun L => mp xs L == 0) then 0 else 2
/-- the better of two verdicts -/
def best (a b : Int) : Int := if a = 1 ∨ b = 1 then 1 else if a = 0 ∨ b = 0 then 0 else 2

theorem mp_vals (xs ys : List Int) : mp xs ys = 0 ∨ mp xs ys = 1 ∨ mp xs ys = 2 := by
  unfold mp; repeat' split
  all_goals simp
theorem one_vals (xs : List Int) (Ls : List (List Int)) : one xs Ls = 0 ∨ one xs Ls = 1 ∨ one xs Ls = 2 := by
  unfold one; repeat' split
  all_goals simp
theorem best_vals (a b : Int) : best a b = 0 ∨ best a b = 1 ∨ best a b = 2 := by
  unfold best; repeat' split
  all_goals simp

theorem one_eq1 (xs : List Int) (Ls : List (List Int)) : one xs Ls = 1 ↔ ∃ L, L ∈ Ls ∧ mp xs L = 1 := by
  unfold one
  by_cases h : Ls.any (fun L => mp xs L == 1)
  · rw [if_pos h]; simpa using h
  · rw [if_neg h]
    have h' : ¬ ∃ L, L ∈ Ls ∧ mp xs L = 1 := by simpa using h
    split <;> simp [h'] <;> simpa using h'

theorem one_eq2 (xs : List Int) (Ls : List (List Int)) : one xs Ls = 2 ↔ ∀ L, L ∈ Ls → mp xs L = 2 := by
  constructor
  · intro h L hL
    rcases mp_vals xs L with e | e | e
    · exfalso
      unfold one at h
      have h0 : Ls.any (fun L => mp xs L == 0) = true := by simp; exact ⟨L, hL, e⟩
      rw [h0] at h; split at h <;> simp at h
    · exact absurd ((one_eq1 xs Ls).2 ⟨L, hL, e⟩) (by rw [h]; decide)
    · exact e
  · intro h
    unfold one
    have h1 : Ls.any (fun L => mp xs L == 1) = false := by simp; intro L hL; rw [h L hL]; decide
    have h0 : Ls.any (fun L => mp xs L == 0) = false := by simp; intro L hL; rw [h L hL]; decide
    rw [h1, h0]; rfl

theorem one_nil (xs : List Int) : one xs [] = 2 := rfl
theorem one_single (xs L : List Int) : one xs [L] = mp xs L := by
  unfold one
  rcases mp_vals xs L with e | e | e <;> simp [e]

theorem one_append (xs : List Int) (A B : List (List Int)) : one xs (A ++ B) = best (one xs A) (one xs B) := by
  unfold one best
  rw [List.any_append, List.any_append]
  cases A.any (fun L => mp xs L == 1) <;> cases B.any (fun L => mp xs L == 1) <;> cases A.any (fun L => mp xs L == 0) <;> cases B.any (fun L => mp xs L == 0) <;> simp

theorem best_two (b : Int) (h : b = 0 ∨ b = 1 ∨ b = 2) : best 2 b = b := by rcases h with rfl | rfl | rfl <;> rfl

theorem mp_eq1 (xs L : List Int) : mp xs L = 1 ↔ L.length ≤ xs.length ∧ xs.take L.length = L := by
  unfold mp
  by_cases h : xs.length < L.length
  · rw [if_pos h]; split <;> simp <;> omega
  · rw [if_neg h]
    split
    · rename_i e; simp [e]; omega
    · rename_i e; simp [e]
theorem mp_eq0 (xs L : List Int) : mp xs L = 0 ↔ xs.length < L.length ∧ L.take xs.length = xs := by
  unfold mp
  by_cases h : xs.length < L.length
  · rw [if_pos h]; split
    · rename_i e; simp [h, e]
    · rename_i e; simp [e]
  · rw [if_neg h]
    split <;> simp <;> omega

theorem mp_self (xs : List Int) : mp xs xs = 1 := (mp_eq1 xs xs).2 ⟨Nat.le_refl _, List.take_length⟩

theorem mp_ext1 (xs L : List Int) (k : Nat) (h : mp (xs.take k) L = 1) : mp xs L = 1 := by
  rw [mp_eq1] at h ⊢
  obtain ⟨h1, h2⟩ := h
  simp at h1
  refine ⟨by omega, ?_⟩
  rw [List.take_take] at h2
  rw [← h2]; congr 1
  simp; omega

theorem mp_ext2 (xs L : List Int) (k : Nat) (h : mp (xs.take k) L = 2) : mp xs L = 2 := by
  rcases mp_vals xs L with e | e | e
  · exfalso
    rw [mp_eq0] at e
    obtain ⟨h1, h2⟩ := e
    have : mp (xs.take k) L = 0 := by
      rw [mp_eq0]
      refine ⟨by simp; omega, ?_⟩
      rw [← h2, List.length_take, List.length_take, List.take_take]
      congr 1; omega
    omega
  · exfalso
    rw [mp_eq1] at e
    obtain ⟨h1, h2⟩ := e
    by_cases hk : L.length ≤ (xs.take k).length
    · have : mp (xs.take k) L = 1 := by
        rw [mp_eq1]
        refine ⟨hk, ?_⟩
        simp at hk
        rw [List.take_take, show min L.length k = L.length by omega]; exact h2
      omega
    · have : mp (xs.take k) L = 0 := by
        rw [mp_eq0]
        refine ⟨by omega, ?_⟩
        simp at hk
        rw [← h2, List.length_take, List.take_take]
        congr 1; omega
      omega
  · exact e

theorem one_ext (xs : List Int) (Ls : List (List Int)) (k : Nat) (h : one (xs.take k) Ls ≠ 0) : one (xs.take k) Ls = one xs Ls := by
  rcases one_vals (xs.take k) Ls with e | e | e
  · exact absurd e h
  · rw [e]
    obtain ⟨L, hL, h1⟩ := (one_eq1 _ _).1 e
    exact ((one_eq1 _ _).2 ⟨L, hL, mp_ext1 xs L k h1⟩).symm
  · rw [e]
    exact ((one_eq2 _ _).2 fun L hL => mp_ext2 xs L k ((one_eq2 _ _).1 e L hL)).symm

theorem one_ins (xs : List Int) (A B : List (List Int)) : one xs (A ++ [xs] ++ B) = 1 :=
  (one_eq1 _ _).2 ⟨xs, by simp, mp_self xs⟩

theorem one_snoc (xs : List Int) (Ls : List (List Int)) (i : Nat) (h : i < Ls.length) : one xs (Ls.take (i + 1)) = best (one xs (Ls.take i)) (mp xs (Ls.getD i [])) := by
  rw [List.take_succ_eq_append_getElem h, one_append, one_single]
  simp [h]

theorem one_hit (xs : List Int) (Ls : List (List Int)) (i : Nat) (h : i < Ls.length) (h1 : mp xs (Ls.getD i []) = 1) : one xs Ls = 1 :=
  (one_eq1 _ _).2 ⟨_, by simp [h], h1⟩
end Go.Proofs.Qxb6618072a

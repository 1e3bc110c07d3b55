/- seat b6618072a: the contract of zzClone -/
import Derived.Test.Qxb6618072aCopy
import Derived.WalkKit
import Derived.WalkSpells
import Derived.OpenShut
namespace Go.Proofs.Qxb6618072a
open Go.RowKit

/-- n cells of which the first k are the bytes zs and the rest are zero -/
def part (zs : List Int) (n k : Nat) : Array Value := Array.ofFn fun i : Fin n => Value.int .u8 (if i.val < k then zs.getD i.val 0 else 0)

theorem part_size (zs : List Int) (n k : Nat) : (part zs n k).size = n := by simp [part]
theorem part_get (zs : List Int) (n k j : Nat) (hj : j < n) : (part zs n k)[j]? = some (.int .u8 (if j < k then zs.getD j 0 else 0)) := by
  unfold part; rw [Array.getElem?_ofFn, dif_pos hj]
theorem part_zero (zs : List Int) (n : Nat) : madeCells #[.int .u8 0] n = part zs n 0 := by
  apply Array.ext
  · simp [part_size, size_madeCells]
  · intro i h1 h2
    simp [madeCells, part, Nat.mod_one]
theorem part_next (zs : List Int) (n k : Nat) : (part zs n k).setIfInBounds k (.int .u8 (zs.getD k 0)) = part zs n (k + 1) := by
  apply Array.ext
  · simp [part_size]
  · intro i h1 h2
    rw [Array.getElem_setIfInBounds (by simpa using h1)]
    simp only [part, Array.getElem_ofFn]
    by_cases e : k = i
    · subst e; simp
    · rw [if_neg e]
      have : (i < k) = (i < k + 1) := by rw [eq_iff_iff]; omega
      simp only [this]

/-- the n bytes zs lie at address a -/
def Lies (w : World) (a : Option Addr) (n : Nat) (zs : List Int) : Prop :=
  0 < n → ∃ b off, a = some ⟨b, off, none⟩ ∧ b < w.heap.size ∧ ∀ j, j < n → w.cell? ⟨b, off + j, none⟩ = some (.int .u8 (zs.getD j 0))

theorem Lies.below {w w' : World} {a : Option Addr} {n : Nat} {zs : List Int} (h : Lies w a n zs) (hb : Below w.heap.size w w') : Lies w' a n zs := fun h0 => by
  obtain ⟨b, off, h1, h2, h3⟩ := h h0
  exact ⟨b, off, h1, by have := hb.size; omega, fun j hj => (hb.cell (p := ⟨b, off + j, none⟩) h2).trans (h3 j hj)⟩

theorem lies_part (w : World) (zs : List Int) (n : Nat) : Lies (w.alloc (.cells (part zs n n) 5)) (some ⟨w.heap.size, 0, none⟩) n zs := fun _ =>
  ⟨w.heap.size, 0, rfl, by simp, fun j hj => by rw [World.cell?_alloc_new, Nat.zero_add, part_get zs n n j hj, if_pos hj]⟩

theorem clone_nil (w : World) : Calls Try.prog 15 #[.slice none 0 0] w fun e w' => e = .returned (.slice none 0 0) ∧ w' = w := by
  have heq := fun w a n c => Lib.run_eql_slice_nil (P := Try.prog) w 22 5 a n c 0 0 Try.underlying22
  go_enter Try.func15, Try.ntmps15
  go_wp2
  go_ret
  exact ⟨rfl, rfl⟩

set_option maxHeartbeats 400000 in
theorem clone_some (x : Addr) (n c : Nat) (zs : List Int) (w : World) (hn : n ≤ 1048576) (hl : Lies w (some x) n zs) :
    Calls Try.prog 15 #[.slice (some x) n c] w fun e w' => e = .returned (.slice (some ⟨w.heap.size, 0, none⟩) n n) ∧ w' = w.alloc (.cells (part zs n n) 5) := by
  have heq := fun w a n c => Lib.run_eql_slice_nil (P := Try.prog) w 22 5 a n c 0 0 Try.underlying22
  have hmk := run_make_row' (P := Try.prog) 22 5 (.int .u8 0) 1 Try.underlying22 Try.info5 rfl .i64 .i64 n (by omega) (by omega)
  rw [part_zero zs] at hmk
  go_enter Try.func15, Try.ntmps15
  go_wp2
  go_loopw [4] (fun i wr => ∃ k : Nat, k ≤ n ∧ i = .int .i64 k ∧ wr = w.alloc (.cells (part zs n k) 5)) (fun i _ => n - (intOf i).toNat)
  case atStart => exact ⟨0, by omega, rfl, rfl⟩
  case round =>
    obtain ⟨k, hk, rfl, rfl⟩ := hrel
    by_cases hlt : k < n
    · obtain ⟨b, off, hx, hb, hc⟩ := hl (by omega)
      obtain rfl : x = ⟨b, off, none⟩ := by simpa using hx
      have hck := hc k (by omega)
      clear hx
      have hsz := part_size zs n k
      have hgk := part_get zs n k k hlt
      have hnx := part_next zs n k
      have hfin : w.alloc (.cells ((part zs n k).setIfInBounds k (.int .u8 (zs[k]?.getD 0))) 5) = w.alloc (.cells (part zs n (k + 1)) 5) := by rw [← List.getD_eq_getElem?_getD, hnx]
      have HF : Hid (w.alloc (.cells ((part zs n k).setIfInBounds k (.int .u8 (zs[k]?.getD 0))) 5) = w.alloc (.cells (part zs n (k + 1)) 5)) := hfin
      clear hnx hfin
      go_wp2
      go_roundw
      case rel =>
        exact ⟨k + 1, by omega, by go_num, HF.out⟩
      case measure => simp [intOf]; omega
    · obtain rfl : k = n := by omega
      go_wp2
      go_ret
      exact ⟨rfl, rfl⟩

theorem clone_any (a : Option Addr) (n c : Nat) (zs : List Int) (w : World) (hn : n ≤ 1048576) (hl : Lies w a n zs) (h0 : a = none → n = 0 ∧ c = 0) :
    Calls Try.prog 15 #[.slice a n c] w fun e w' => ∃ a' c', e = .returned (.slice a' n c') ∧ n ≤ c' ∧ Lies w' a' n zs ∧ (a' = none → n = 0 ∧ c' = 0) ∧ Below w.heap.size w w' := by
  cases a with
  | none =>
    obtain ⟨rfl, rfl⟩ := h0 rfl
    refine (clone_nil w).mono ?_
    rintro e w' ⟨rfl, rfl⟩
    exact ⟨none, 0, rfl, Nat.le_refl _, fun h => by omega, fun _ => ⟨rfl, rfl⟩, Below.refl _ _⟩
  | some x =>
    refine (clone_some x n c zs w hn hl).mono ?_
    rintro e w' ⟨rfl, rfl⟩
    exact ⟨_, n, rfl, Nat.le_refl _, lies_part w zs n, fun h => by simp at h, (Below.refl _ _).alloc (Nat.le_refl _) _⟩
end Go.Proofs.Qxb6618072a

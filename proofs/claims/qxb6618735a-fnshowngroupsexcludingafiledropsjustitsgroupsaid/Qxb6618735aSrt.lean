/- seat b6618735a: the row that the stable sort works on; an exchange of two of its cells; slices.swapRangeCmpFunc -/
import Derived.Test.Qxb6618735aRows
import Derived.WalkKit
import Derived.WalkSpells
import Derived.BigRegion
import Derived.Deep.Draws
namespace Go.Proofs.Qxb6618735a
open Go.RowKit

/-- a group by its start x: the slice over its block of pointers -/
abbrev encG (Gb ln : Nat → Nat) (x : Nat) : Value := .slice (some ⟨Gb x, 0, none⟩) (ln x) (ln x)

/-- w is w0 but for draws and for block blk, whose cells begin with the groups d -/
structure Srt (Gb ln : Nat → Nat) (w0 : World) (blk : Nat) (d : List Nat) (w : World) : Prop where
  os : w.os = w0.os
  tape : w.tape = w0.tape
  output : w.output = w0.output
  size : w.heap.size = w0.heap.size
  other : ∀ k, k ≠ blk → w.heap[k]? = w0.heap[k]?
  row : ∃ cur, w.heap[blk]? = some (.cells cur 34 (0, 0)) ∧ ∀ i, i < d.length → cur[i]? = some (encG Gb ln (d.getD i 0))

section
variable {Gb ln : Nat → Nat} {w0 w : World} {blk : Nat} {d : List Nat}

theorem Srt.cell (h : Srt Gb ln w0 blk d w) (i : Nat) (hi : i < d.length) : w.cell? ⟨blk, i, none⟩ = some (encG Gb ln (d.getD i 0)) := by
  obtain ⟨cur, h1, h2⟩ := h.row
  rw [← h2 i hi]
  simp [World.cell?, h1]
theorem Srt.free (h : Srt Gb ln w0 blk d w) (i : Nat) : w.frozen? ⟨blk, i, none⟩ = false := by
  obtain ⟨cur, h1, h2⟩ := h.row
  simp [World.frozen?, h1]
theorem Srt.drew (h : Srt Gb ln w0 blk d w) : Srt Gb ln w0 blk d w.drew := ⟨h.os, h.tape, h.output, h.size, h.other, h.row⟩
theorem Srt.drewN (h : Srt Gb ln w0 blk d w) (n : Nat) : Srt Gb ln w0 blk d (w.drewN n) := ⟨h.os, h.tape, h.output, h.size, h.other, h.row⟩
theorem Srt.set (h : Srt Gb ln w0 blk d w) (i x : Nat) (hi : i < d.length) : Srt Gb ln w0 blk (d.set i x) (w.setCell ⟨blk, i, none⟩ (encG Gb ln x)) := by
  obtain ⟨cur, h1, h2⟩ := h.row
  refine ⟨h.os, h.tape, h.output, by simpa [World.setCell] using h.size, fun k hk => ?_, cur.setIfInBounds i (encG Gb ln x), ?_, fun j hj => ?_⟩
  · rw [Below.heap_setCell _ _ _ _ hk]; exact h.other k hk
  · simp only [World.setCell, Array.getElem?_modify, h1]; simp
  · simp at hj
    have hs : i < cur.size := by
      have := h2 i hi
      exact (Array.getElem?_eq_some_iff.1 this).1
    rw [Array.getElem?_setIfInBounds]
    by_cases e : i = j
    · subst e; simp [hs, hj]
    · rw [if_neg e, h2 j hj]
      simp [List.getD_eq_getElem?_getD, e]
end

/-- two places exchanged -/
def swp (d : List Nat) (i j : Nat) : List Nat := (d.set i (d.getD j 0)).set j (d.getD i 0)
theorem swp_length (d : List Nat) (i j : Nat) : (swp d i j).length = d.length := by simp [swp]
theorem swp_get (d : List Nat) (i j k : Nat) (hi : i < d.length) (hj : j < d.length) : (swp d i j).getD k 0 = if k = j then d.getD i 0 else if k = i then d.getD j 0 else d.getD k 0 := by
  unfold swp
  rw [List.getD_eq_getElem?_getD, List.getElem?_set]
  by_cases e : j = k
  · subst e; simp [hj]
  · rw [if_neg e, if_neg (Ne.symm e), List.getElem?_set]
    by_cases e' : i = k
    · subst e'; simp [hi]
    · rw [if_neg e', if_neg (Ne.symm e')]; simp

/-- the first k places of the two runs exchanged -/
def swps (d : List Nat) (a b : Nat) : Nat → List Nat
  | 0 => d
  | k + 1 => swp (swps d a b k) (a + k) (b + k)
theorem swps_length (d : List Nat) (a b k : Nat) : (swps d a b k).length = d.length := by
  induction k with
  | zero => rfl
  | succ k ih => simp [swps, swp_length, ih]

theorem swps_get (d : List Nat) (a b n : Nat) (hab : a + n ≤ b) (hb : b + n ≤ d.length) : ∀ k, k ≤ n → ∀ i, (swps d a b k).getD i 0 = if a ≤ i ∧ i < a + k then d.getD (b + (i - a)) 0 else if b ≤ i ∧ i < b + k then d.getD (a + (i - b)) 0 else d.getD i 0
  | 0, _, i => by rw [if_neg (by omega), if_neg (by omega)]; rfl
  | k + 1, hk, i => by
    have ih := swps_get d a b n hab hb k (by omega)
    show (swp (swps d a b k) (a + k) (b + k)).getD i 0 = _
    rw [swp_get _ _ _ _ (by rw [swps_length]; omega) (by rw [swps_length]; omega)]
    by_cases e1 : i = b + k
    · rw [if_pos e1, ih, if_neg (by omega), if_neg (by omega), if_neg (by omega), if_pos (by omega)]
      congr 1; omega
    · rw [if_neg e1]
      by_cases e2 : i = a + k
      · rw [if_pos e2, ih, if_neg (by omega), if_neg (by omega), if_pos (by omega)]
        congr 1; omega
      · rw [if_neg e2, ih]
        repeat' split
        all_goals first | omega | rfl

theorem ext_getD {l l' : List Nat} (h : l.length = l'.length) (hg : ∀ i, i < l.length → l.getD i 0 = l'.getD i 0) : l = l' := by
  apply List.ext_getElem h
  intro i h1 h2
  have := hg i h1
  simpa [h1, h2] using this

theorem getD_append (l r : List Nat) (i : Nat) : (l ++ r).getD i 0 = if i < l.length then l.getD i 0 else r.getD (i - l.length) 0 := by
  rw [List.getD_eq_getElem?_getD, List.getElem?_append]
  split <;> simp

theorem swps_lists (P X M Y S : List Nat) (n : Nat) (hx : X.length = n) (hy : Y.length = n) :
    swps (P ++ X ++ M ++ Y ++ S) P.length (P.length + n + M.length) n = P ++ Y ++ M ++ X ++ S := by
  apply ext_getD
  · rw [swps_length]; simp; omega
  · intro i hi
    rw [swps_length] at hi
    rw [swps_get _ _ _ n (by omega) (by simp; omega) n (Nat.le_refl _)]
    simp only [getD_append, List.length_append, hx, hy]
    repeat' split
    all_goals first | omega | rfl | (congr 1; omega)

set_option maxHeartbeats 800000 in
theorem swapRange_any (Gb ln : Nat → Nat) (w0 w : World) (blk cap a b n : Nat) (d : List Nat) (fv : Value) (hd : d.length ≤ 4096) (hab : a + n ≤ b) (hb : b + n ≤ d.length) (h : Srt Gb ln w0 blk d w) :
    Calls Try.prog 35 #[.slice (some ⟨blk, 0, none⟩) d.length cap, .int .i64 a, .int .i64 b, .int .i64 n, fv] w fun e w' => e = .returned (.tuple #[]) ∧ Srt Gb ln w0 blk (swps d a b n) w' := by
  have H : Hid (Srt Gb ln w0 blk d w) := h
  clear h
  go_enter Try.func35, Try.ntmps35
  go_wp2
  go_loopw [10] (fun i wr => ∃ k : Nat, k ≤ n ∧ i = .int .i64 k ∧ Hid (Srt Gb ln w0 blk (swps d a b k) wr)) (fun i _ => n - (intOf i).toNat)
  case atStart => exact ⟨0, by omega, rfl, H.out⟩
  case round =>
    obtain ⟨k, hk, rfl, HS⟩ := hrel
    by_cases hlt : k < n
    · have hl := swps_length d a b k
      have c1 := HS.out.cell (a + k) (by omega)
      have c2 := HS.out.cell (b + k) (by omega)
      have f1 := HS.out.free (a + k)
      have f2 := HS.out.free (b + k)
      have S1 := (HS.out.set (a + k) ((swps d a b k).getD (b + k) 0) (by omega)).set (b + k) ((swps d a b k).getD (a + k) 0) (by simp; omega)
      have HS1 : Hid (Srt Gb ln w0 blk (swps d a b (k + 1)) ((wr.setCell ⟨blk, a + k, none⟩ (encG Gb ln ((swps d a b k).getD (b + k) 0))).setCell ⟨blk, b + k, none⟩ (encG Gb ln ((swps d a b k).getD (a + k) 0)))) := S1
      clear S1
      generalize (swps d a b k).getD (a + k) 0 = x at *
      generalize (swps d a b k).getD (b + k) 0 = y at *
      have hne : ¬ (a + k = b + k) := by omega
      go_wp2
      go_region
      all_goals go_wp2
      go_roundw
      case rel => exact ⟨k + 1, by omega, by go_num, HS1.out.drew⟩
      case measure => simp [intOf]; omega
    · obtain rfl : k = n := by omega
      go_wp2
      go_end0
      exact ⟨rfl, HS.out⟩
end Go.Proofs.Qxb6618735a

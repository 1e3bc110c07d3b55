/- seat b6618072a: plain facts for the arrived law: the record header's length, chains of empty headers, a block that alone is written -/
import Derived.Test.Qxb6618072aScan
import Derived.WalkKit
namespace Go.Proofs.Qxb6618072a
open Go.RowKit

theorem or_bytes (a b : Int) (ha : 0 ≤ a) (ha' : a ≤ 255) (hb : 0 ≤ b) (hb' : b ≤ 255) : bits .or .i64 (a * 256) b = a * 256 + b := by
  obtain ⟨x, rfl⟩ := Int.eq_ofNat_of_zero_le ha
  obtain ⟨y, rfl⟩ := Int.eq_ofNat_of_zero_le hb
  have hx : x < 256 := by omega
  have hy : y < 256 := by omega
  have e1 : (BitVec.ofInt 64 ((x : Int) * 256)).toNat = x * 256 := by
    rw [show ((x : Int) * 256) = ((x * 256 : Nat) : Int) by omega, BitVec.ofInt_natCast, BitVec.toNat_ofNat]; omega
  have e2 : (BitVec.ofInt 64 (y : Int)).toNat = y := by rw [BitVec.ofInt_natCast, BitVec.toNat_ofNat]; omega
  have e3 : x * 256 ||| y = x * 256 + y := by
    have := Nat.two_pow_add_eq_or_of_lt (i := 8) (b := y) (by omega) x
    rw [Nat.mul_comm x 256]
    exact this.symm
  show IntKind.i64.wrap ((BitVec.ofInt 64 ((x : Int) * 256) ||| BitVec.ofInt 64 (y : Int)).toNat : Int) = _
  rw [BitVec.toNat_or, e1, e2, e3, IntWalk.i64_left, IntWalk.wrap64_in _ (by omega)]
  omega

/-- the length that the record header at place q gives -/
def hdr (zs : List Int) (q : Nat) : Int := zs.getD (q + 3) 0 * 256 + zs.getD (q + 4) 0

/-- what is left behind t headers read from place q on: at the start what was left before, then what the last header said -/
def lft (zs : List Int) (l0 : Int) (q t : Nat) : Int := if t = 0 then l0 else hdr zs (q + 5 * (t - 1))

/-- t handshake headers lie whole one behind the other from place q on, all but the last of length 0 -/
def chain (zs : List Int) (n q t : Nat) : Prop := ∀ i, i < t → q + 5 * i + 5 ≤ n ∧ zs.getD (q + 5 * i) 0 = 22 ∧ (i + 1 < t → hdr zs (q + 5 * i) = 0)

theorem chain_next {zs : List Int} {n q t : Nat} {l0 : Int} (h : chain zs n q t) (h0 : lft zs l0 q t = 0) (hn : q + 5 * t + 5 ≤ n) (hz : zs.getD (q + 5 * t) 0 = 22) : chain zs n q (t + 1) := by
  intro i hi
  by_cases e : i = t
  · subst e; exact ⟨hn, hz, by omega⟩
  · obtain ⟨a, b, c⟩ := h i (by omega)
    refine ⟨a, b, fun _ => ?_⟩
    by_cases e' : i + 1 = t
    · unfold lft at h0
      rw [if_neg (by omega), show t - 1 = i by omega] at h0
      exact h0
    · exact c (by omega)

theorem lft_next (zs : List Int) (l0 : Int) (q t : Nat) : lft zs l0 q (t + 1) = hdr zs (q + 5 * t) := by
  unfold lft; rw [if_neg (by omega)]; rfl

theorem hdr_bounds {zs : List Int} (hz : ∀ j, 0 ≤ zs.getD j 0 ∧ zs.getD j 0 ≤ 255) (q : Nat) : 0 ≤ hdr zs q ∧ hdr zs q ≤ 65535 := by
  unfold hdr; have := hz (q + 3); have := hz (q + 4); omega

theorem lft_bounds {zs : List Int} (hz : ∀ j, 0 ≤ zs.getD j 0 ∧ zs.getD j 0 ≤ 255) {l0 : Int} (h0 : 0 ≤ l0) (h1 : l0 ≤ 1073741824) (q t : Nat) : 0 ≤ lft zs l0 q t ∧ lft zs l0 q t ≤ 1073741824 := by
  unfold lft
  split
  · omega
  · have := hdr_bounds hz (q + 5 * (t - 1)); omega

/-! ### one block of the heap, written cell by cell -/
theorem block_setCell {w : World} {b : Nat} {cs : Array Value} {t : TypeId} {fr : Nat × Nat} (h : w.heap[b]? = some (.cells cs t fr)) (o : Nat) (v : Value) :
    (w.setCell ⟨b, o, none⟩ v).heap[b]? = some (.cells (cs.setIfInBounds o v) t fr) := by
  simp only [World.setCell, Array.getElem?_modify, h]
  simp

theorem cell_block {w : World} {b : Nat} {cs : Array Value} {t : TypeId} {fr : Nat × Nat} (h : w.heap[b]? = some (.cells cs t fr)) (o : Nat) : w.cell? ⟨b, o, none⟩ = cs[o]? := by
  simp [World.cell?, h]

theorem free_block {w : World} {b : Nat} {cs : Array Value} {t : TypeId} (h : w.heap[b]? = some (.cells cs t (0, 0))) (o : Nat) : w.frozen? ⟨b, o, none⟩ = false := by
  simp [World.frozen?, h]

theorem grown_setCell {w w1 : World} {b : Nat} (h : w.grownBy w1 (some b)) (o : Nat) (v : Value) : w.grownBy (w1.setCell ⟨b, o, none⟩ v) (some b) :=
  ⟨h.os, h.tape, h.output, by simpa [World.setCell] using h.size, fun k hk hne => by
    rw [Below.heap_setCell _ _ _ _ (fun e => hne (by rw [show k = b from e]))]; exact h.block k hk hne⟩

theorem grown_drew {w w1 : World} {r : Option Nat} (h : w.grownBy w1 r) : w.grownBy w1.drew r := ⟨h.os, h.tape, h.output, h.size, h.block⟩

theorem grown_cell {w w1 : World} {b bf : Nat} (h : w.grownBy w1 (some b)) (hlt : bf < w.heap.size) (hne : bf ≠ b) (o : Nat) : w1.cell? ⟨bf, o, none⟩ = w.cell? ⟨bf, o, none⟩ :=
  World.cell?_of_block (w := w) (h.block bf hlt (by simpa using hne))
end Go.Proofs.Qxb6618072a

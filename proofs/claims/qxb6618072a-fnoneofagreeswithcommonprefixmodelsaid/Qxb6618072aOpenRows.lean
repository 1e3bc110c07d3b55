/- seat b6618072a: a [][]byte argument, opened -/
import Derived.Test.Qxb6618072aOneOf
import Derived.WalkKit
import Derived.ProofKit
import Derived.OpenShut
import Derived.Deep.Matrix
namespace Go.Proofs.Qxb6618072a
open Go.ChangeShapes Go.WideShapes Go.ChangeAt Go.RowKit

def IsRow (k : IntKind) (w : World) (a : Option Addr) (len cap : Nat) (zs : List Int) : Prop :=
  (a = none ∧ len = 0 ∧ cap = 0 ∧ zs = []) ∨
  ∃ x, a = some x ∧ len ≤ cap ∧ cap ≤ maxLen ∧ zs.length = cap ∧ (∀ i, i < zs.length → w.cell? (x.add i) = some (.int k (zs.getD i 0))) ∧ ∀ n ∈ zs, (Lit.int k n).wf = true

theorem addr_plain {w : World} {a : Addr} {v : Value} (h : w.cell? (a.add 0) = some v) : ∃ b off, a = ⟨b, off, none⟩ := by
  obtain ⟨b, off, spot⟩ := a
  have hspot : spot = none := by simpa [Addr.add] using World.cell?_spot h
  subst hspot
  exact ⟨b, off, rfl⟩

theorem open_rows {H : Type} {enc : TypeId × Value → H} {w : World} {held : Bool} {a : Option Addr} {m d : Nat} {dd : DataW H} {p : List MemPlace}
    (h : DataW.Trod enc Try.prog w 0 (fun _ => true) held 26 (.slice a m d) dd p) :
    ∃ vs Ls, RowsIn w a vs Ls ∧ vs.length = m ∧ m ≤ d ∧ m ≤ 9223372036854775807 ∧ (a = none → m = 0 ∧ d = 0) := by
  obtain ⟨fuel, hf⟩ := h
  rcases Deep.open_int_rows Try.underlying26 Try.underlying22 Try.underlying5 (by kernel_rfl) (by kernel_rfl) hf with ⟨hcs, _⟩ | ⟨x, l, c, A, L, C, Z, hcs, _, hl, hc, _, hr⟩
  · simp [Value.cells] at hcs
    obtain ⟨rfl, rfl, rfl⟩ := hcs
    exact ⟨[], [], ⟨rfl, fun i hi => by simp at hi, fun h => by simp at h⟩, rfl, Nat.le_refl _, by omega, fun _ => ⟨rfl, rfl⟩⟩
  · simp [Value.cells] at hcs
    obtain ⟨rfl, rfl, rfl⟩ := hcs
    unfold maxLen at hc
    refine ⟨(List.range m).map fun r => .slice (A r) (L r) (C r), (List.range m).map fun r => (Z r).take (L r), ⟨by simp, fun i hi => ?_, fun h0 => ?_⟩, by simp, hl, by omega, fun h => by simp at h⟩
    · simp at hi
      obtain ⟨h1, h2, h3, h4, h5, h6, h7⟩ := hr i (by omega)
      have hlen : ((Z i).take (L i)).length = L i := by simp; omega
      simp only [List.getD_eq_getElem?_getD, List.getElem?_map, List.getElem?_range hi, Option.map_some, Option.getD_some]
      unfold maxLen at h3
      refine ⟨A i, C i, by rw [hlen], by omega, by omega, ?_, ?_⟩
      · rw [hlen]
        intro hp
        cases hA : A i with
        | none => have := h6 hA; omega
        | some a' =>
          obtain ⟨_, hcell⟩ := h7 a' hA
          obtain ⟨b, off, rfl, hcc⟩ := ints_at (zs := Z i) (fun j hj => hcell j (by omega)) (by omega)
          refine ⟨b, off, rfl, by have := World.block_lt_of_cell? _ _ (hcc 0 (by omega)); simpa using this, fun j hj => ?_⟩
          rw [hcc j (by omega)]
          simp [List.getD_eq_getElem?_getD, hj]
      · intro z hz
        have := bounds_u8 (h5 z (List.mem_of_mem_take hz))
        exact this
    · simp at h0
      obtain ⟨b, off, rfl⟩ := addr_plain (hr 0 (by omega)).1
      refine ⟨b, off, rfl, by have := World.block_lt_of_cell? _ _ (hr 0 (by omega)).1; rw [Addr.add_lit] at this; exact this, fun i hi => ?_⟩
      simp at hi
      have := (hr i (by omega)).1
      rw [Addr.add_lit] at this
      rw [this]
      simp [hi]
end Go.Proofs.Qxb6618072a

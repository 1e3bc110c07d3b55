/- seat b6618072a: 'zzc := make([]byte, len(first)); copy(zzc, first)': what lies in memory behind it -/
import Derived.Test.Qxb6618072aRows
import Derived.WalkKit
import Derived.WalkSpells
import Derived.Deep.OwnRows
import Derived.Laws.CopyOwn
namespace Go.Proofs.Qxb6618072a
open Go.RowKit

theorem Try.info5 : (Try.prog.info? 5).map (fun i => (i.zero, i.size, i.bytes)) = some (some (.int .u8 0), 1, 1) := by kernel_rfl
theorem Try.size5 : (Try.prog.info? 5).map (·.size) = some 1 := by kernel_rfl

theorem modify_push {α : Type} (a : Array α) (x : α) (f : α → α) : (a.push x).modify a.size f = a.push (f x) := by
  apply Array.ext
  · simp
  · intro i h1 h2
    rw [Array.getElem_modify]
    by_cases e : a.size = i
    · subst e; simp
    · rw [if_neg e, Array.getElem_push, Array.getElem_push]
      have : i < a.size := by simp at h2; omega
      simp [this]

theorem setRow_alloc (w : World) (A C : Array Value) (t : TypeId) : (w.alloc (.cells A t)).setRow w.heap.size C = w.alloc (.cells C t) := by
  show ({ w with heap := (w.heap.push (Obj.cells A t)).modify w.heap.size _ } : World) = { w with heap := w.heap.push (Obj.cells C t) }
  rw [modify_push]

theorem copied (x : Addr) (n c : Nat) (zs : List Int) (w : World) (hn : n ≤ zs.length) (hcell : ∀ i, i < zs.length → w.cell? (x.add i) = some (.int .u8 (zs.getD i 0))) :
    ∃ C : Array Value, C.size = n ∧ (∀ j, j < n → C[j]? = some (.int .u8 (zs.getD j 0))) ∧ ∀ ty, (Builtin.copy_ #[22, 22] ty #[.slice (some ⟨w.heap.size, 0, none⟩) n n, .slice (some x) n c]).run Try.prog (w.alloc (.cells (madeCells #[.int .u8 0] n) 5)) = .ok (.int .i64 n) (w.alloc (.cells C 5)) := by
  have hlen : ((zs.take n).map (Value.int .u8)).length = n := by simp; omega
  have hget : ∀ j v, ((zs.take n).map (Value.int .u8))[j]? = some v → j < n ∧ v = .int .u8 (zs.getD j 0) := by
    intro j v h
    have hj : j < n := by have := (List.getElem?_eq_some_iff.1 h).1; omega
    rw [List.getElem?_map, List.getElem?_take, if_pos hj] at h
    have hz : j < zs.length := by omega
    simp [hz] at h
    exact ⟨hj, by simp [hz, h]⟩
  refine ⟨((zs.take n).map (Value.int .u8)).toArray, by simpa using hlen, fun j hj => ?_, fun ty => ?_⟩
  · have hz : j < zs.length := by omega
    simp [hj, hz]
  · have h := run_copy_row (P := Try.prog) (w.alloc (.cells (madeCells #[.int .u8 0] n) 5)) 22 22 ty 5 w.heap.size 0 n n x n c (madeCells #[.int .u8 0] n) 5 ((zs.take n).map (Value.int .u8)) Try.underlying22 Try.size5
      (by show (w.heap.push _)[w.heap.size]? = _; simp) (by rw [hlen]; simp)
      (by
        intro j v h
        obtain ⟨hj, rfl⟩ := hget j v h
        have hc := hcell j (by omega)
        rw [World.cell?_alloc_lt _ _ _ (World.block_lt_of_cell? _ _ hc)]
        exact hc)
      (by rw [hlen, size_madeCells]; omega) (ints_oneCell _ _)
    rw [h]
    have e : ((madeCells #[.int .u8 0] n).toList.take 0 ++ (zs.take n).map (Value.int .u8) ++ (madeCells #[.int .u8 0] n).toList.drop (0 + ((zs.take n).map (Value.int .u8)).length)) = (zs.take n).map (Value.int .u8) := by
      rw [hlen, List.drop_eq_nil_of_le (by simp [size_madeCells])]; simp
    rw [e, setRow_alloc, hlen]
    rfl
end Go.Proofs.Qxb6618072a

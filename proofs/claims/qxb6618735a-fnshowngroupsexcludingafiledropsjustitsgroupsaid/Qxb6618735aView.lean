/- seat b6618735a: the report as it lies in memory, and the functions that only read it -/
import Derived.Test.Qxb6618735aStable
import Derived.Lib.Bytealg
import Derived.BigQuiet
import Derived.LaidEqlPtr
namespace Go.Proofs.Qxb6618735a
open Go.RowKit

/-- the files, plainly -/
structure Fs where
  n : Nat
  path : Nat → ByteArray
  add : Nat → Int
  del : Nat → Int
  treat : Nat → ByteArray
  ng : Nat → Bool

/-- the report in memory: files at block BF, file i's group: the slice over block Gb (st i), of length ln (st i) -/
structure Rep (F : Fs) (ex : Nat → Bool) (st ln Gb : Nat → Nat) (BR BF : Nat) (w : World) : Prop where
  row : ∃ cb tb, w.heap[BF]? = some (.cells cb tb (0, 0))
  files : w.cell? ⟨BR, 4, none⟩ = some (.slice (some ⟨BF, 0, none⟩) F.n F.n)
  path : ∀ i, i < F.n → w.cell? ⟨BF, i * 18, none⟩ = some (.string (F.path i))
  add : ∀ i, i < F.n → w.cell? ⟨BF, i * 18 + 4, none⟩ = some (.int .i64 (F.add i))
  del : ∀ i, i < F.n → w.cell? ⟨BF, i * 18 + 5, none⟩ = some (.int .i64 (F.del i))
  exc : ∀ i, i < F.n → w.cell? ⟨BF, i * 18 + 9, none⟩ = some (.bool (ex i))
  treat : ∀ i, i < F.n → w.cell? ⟨BF, i * 18 + 10, none⟩ = some (.string (F.treat i))
  group : ∀ i, i < F.n → w.cell? ⟨BF, i * 18 + 13, none⟩ = some (encG Gb ln (st i))
  ptr : ∀ i, i < F.n → ∀ t, t < ln (st i) → w.cell? ⟨Gb (st i), t, none⟩ = some (.pointer (some ⟨BF, (st i + t) * 18, none⟩))

theorem cell_keep {w w' : World} (h : ∀ k, k < w.heap.size → w'.heap[k]? = w.heap[k]?) {b i : Nat} {v : Value} (hc : w.cell? ⟨b, i, none⟩ = some v) : w'.cell? ⟨b, i, none⟩ = some v := by
  have hb : b < w.heap.size := by
    apply Classical.byContradiction
    intro hn
    have : w.heap[b]? = none := Array.getElem?_eq_none (by omega)
    simp [World.cell?, this] at hc
  rw [← hc]
  simp [World.cell?, h b hb]

section
variable {F : Fs} {ex : Nat → Bool} {st ln Gb : Nat → Nat} {BR BF : Nat} {w w' : World}
theorem Rep.keep (R : Rep F ex st ln Gb BR BF w) (h : ∀ k, k < w.heap.size → w'.heap[k]? = w.heap[k]?) : Rep F ex st ln Gb BR BF w' :=
  ⟨R.row.elim fun cb ⟨tb, e⟩ => ⟨cb, tb, (h BF (Classical.byContradiction fun hn => by rw [Array.getElem?_eq_none (by omega)] at e; cases e)).trans e⟩, cell_keep h R.files, fun i hi => cell_keep h (R.path i hi), fun i hi => cell_keep h (R.add i hi), fun i hi => cell_keep h (R.del i hi), fun i hi => cell_keep h (R.exc i hi), fun i hi => cell_keep h (R.treat i hi), fun i hi => cell_keep h (R.group i hi), fun i hi t ht => cell_keep h (R.ptr i hi t ht)⟩
theorem Rep.drewN (R : Rep F ex st ln Gb BR BF w) (q : Nat) : Rep F ex st ln Gb BR BF (w.drewN q) := R.keep fun _ _ => rfl
end

theorem info42 : (Try.prog.info? 42).map (fun i => i.size) = some 18 := by kernel_rfl
theorem under51 : Try.prog.underlying 51 = some (.pointer 42) := by kernel_rfl

/-- two files' addresses are equal just where the files are one -/
theorem run_ptr_eql {w : World} {BF : Nat} (h : ∃ cb tb, w.heap[BF]? = some (.cells cb tb (0, 0))) (i j : Nat) :
    (binOp .eql 51 (.pointer (some ⟨BF, i * 18, none⟩)) (.pointer (some ⟨BF, j * 18, none⟩))).run Try.prog w = .ok (.bool (decide (i = j))) w := by
  obtain ⟨cb, tb, h⟩ := h
  obtain ⟨k, hk, hs⟩ := Option.map_eq_some_iff.1 info42
  by_cases e : i = j
  · subst e
    rw [run_eql_ptr_same w _ under51 hk]; simp
  · rw [run_eql_ptr_other w under51 hk (by omega) (fun hh => e (by injection hh with _ h2; omega)) h h]; simp [e]

theorem run_ptr_neq {w : World} {BF : Nat} (h : ∃ cb tb, w.heap[BF]? = some (.cells cb tb (0, 0))) (i j : Nat) :
    (binOp .neq 51 (.pointer (some ⟨BF, i * 18, none⟩)) (.pointer (some ⟨BF, j * 18, none⟩))).run Try.prog w = .ok (.bool (!decide (i = j))) w := by
  have := run_ptr_eql h i j
  simp only [binOp] at this ⊢
  simp only [Sem.run_bind] at this ⊢
  revert this
  cases (Sem.run Try.prog (Op.equal 51 (.pointer (some ⟨BF, i * 18, none⟩)) (.pointer (some ⟨BF, j * 18, none⟩))) w) <;> simp [Result.andThen]

set_option maxHeartbeats 800000 in
theorem change_any (w : World) (BF i : Nat) (a d : Int) (ha : 0 ≤ a) (hd : 0 ≤ d) (hs : a + d ≤ 2 ^ 30)
    (c1 : w.cell? ⟨BF, i * 18 + 4, none⟩ = some (.int .i64 a)) (c2 : w.cell? ⟨BF, i * 18 + 5, none⟩ = some (.int .i64 d)) :
    Calls Try.prog 29 #[.pointer (some ⟨BF, i * 18, none⟩)] w fun e w' => e = .returned (.int .i64 (a + d)) ∧ ∃ q, w' = w.drewN q := by
  go_enter Try.func29, Try.ntmps29
  go_wp2
  go_quiet (fail)
  go_wp2
  go_ret
  exact ⟨rfl, nq, rfl⟩

set_option maxHeartbeats 800000 in
theorem compareString_any (a b : ByteArray) (w : World) :
    Calls Try.prog 30 #[.string a, .string b] w fun e w' => e = .returned (.int .i64 (Lib.compareBytes a.data.toList b.data.toList)) ∧ w' = w := by
  go_enter Try.func30, Try.ntmps30
  go_wp2
  rw [run_callFunc_extern Try.func33 (by kernel_rfl) (by kernel_rfl) (by kernel_rfl) (e := Extern.BytealgCompare.compare) (by kernel_rfl), Lib.run_compareString]
  simp only [Result.andThen]
  rw [Oper.upon_value]
  go_wp2
  go_ret
  exact ⟨rfl, rfl⟩

theorem compare_any (a b : ByteArray) (w : World) :
    Calls Try.prog 26 #[.string a, .string b] w fun e w' => e = .returned (.int .i64 (Lib.compareBytes a.data.toList b.data.toList)) ∧ w' = w := by
  go_enter Try.func26, Try.ntmps26
  go_wp2_with (go_at_call 30; refine (compareString_any _ _ _).mono ?_; rintro e w' ⟨rfl, rfl⟩)
  go_ret
  exact ⟨rfl, rfl⟩
end Go.Proofs.Qxb6618735a

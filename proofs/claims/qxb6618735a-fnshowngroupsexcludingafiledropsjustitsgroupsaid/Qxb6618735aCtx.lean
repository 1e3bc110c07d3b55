/- seat b6618735a: what the laws know of memory once the report is built; the starts in order -/
import Derived.Test.Qxb6618735aGuard
namespace Go.Proofs.Qxb6618735a
open Go.RowKit

/-- B: the first of the report's four blocks -/
structure Ctx (F : Fs) (ex ex' : Nat → Bool) (Gb : Nat → Nat) (p : Option Addr) (BI off B : Nat) (wr : World) : Prop where
  R : Rep F ex' (stOf F.ng) (lnOf F.n F.ng) Gb (B + 1) B wr
  I : Inp F ex p BI off wr
  S : ∀ i, i < F.n → wr.cell? ⟨B + 2, i, none⟩ = some (.int .i64 (stOf F.ng i))
  E : ∀ i, i < F.n → wr.cell? ⟨B + 3, i, none⟩ = some (.int .i64 (enOf F.n F.ng (stOf F.ng i)))

theorem Ctx.keep {F : Fs} {ex ex' : Nat → Bool} {Gb : Nat → Nat} {p : Option Addr} {BI off B : Nat} {w w' : World} (C : Ctx F ex ex' Gb p BI off B w) (h : ∀ k, k < w.heap.size → w'.heap[k]? = w.heap[k]?) : Ctx F ex ex' Gb p BI off B w' :=
  ⟨C.R.keep h, C.I.keep h, fun i hi => cell_keep h (C.S i hi), fun i hi => cell_keep h (C.E i hi)⟩

theorem Bst.ctx {F : Fs} {ex : Nat → Bool} {w w' : World} {f sf ef : Nat → Value} {Gb : Nat → Nat} {p : Option Addr} {BI off : Nat} (h : Bst F ex w f sf ef Gb F.n w') (I : Inp F ex p BI off w) : Ctx F ex ex Gb p BI off w.heap.size w' := by
  have hc : ∀ o, o < F.n * 18 → w'.cell? ⟨w.heap.size, o, none⟩ = some (f o) := fun o ho => h.mem.F.cell ho
  refine ⟨⟨?_, h.mem.rep, fun i hi => ?_, fun i hi => ?_, fun i hi => ?_, fun i hi => ?_, fun i hi => ?_, fun i hi => ?_, fun i hi t ht => h.ptr i hi t ht⟩, I.keep h.mem.below.block, fun i hi => ?_, fun i hi => ?_⟩
  · obtain ⟨cur, h1, _⟩ := h.mem.F; exact ⟨cur, 42, h1⟩
  · rw [hc _ (by omega), h.flds.path i hi]
  · rw [hc _ (by omega), h.flds.add i hi]
  · rw [hc _ (by omega), h.flds.del i hi]
  · rw [hc _ (by omega), h.flds.exc i hi]
  · rw [hc _ (by omega), h.flds.treat i hi]
  · rw [hc _ (by omega), h.grp i hi]
  · rw [h.S.cell hi, h.st i hi]
  · rw [h.E.cell hi, h.en i hi]

theorem dl_run {F : Fs} {ex : Nat → Bool} {s : Nat} (ho : Opens F.ng s) (hs : s < F.n) :
    dl F ex (stOf F.ng) (lnOf F.n F.ng) (enOf F.n F.ng s) = dl F ex (stOf F.ng) (lnOf F.n F.ng) (s + 1) := by
  have e := enOf_spec F.ng hs
  have : ∀ k, s + 1 + k ≤ enOf F.n F.ng s → dl F ex (stOf F.ng) (lnOf F.n F.ng) (s + 1 + k) = dl F ex (stOf F.ng) (lnOf F.n F.ng) (s + 1) := by
    intro k
    induction k with
    | zero => intro _; rfl
    | succ k ih =>
      intro hk
      rw [← Nat.add_assoc, dl_no, ih (by omega)]
      intro hq
      have h1 := (qf_true.1 hq).1
      have h2 := in_group ho hs (k := s + 1 + k) (by omega) (by omega)
      omega
  have h := this (enOf F.n F.ng s - (s + 1)) (by have := e.lt; omega)
  rwa [show s + 1 + (enOf F.n F.ng s - (s + 1)) = enOf F.n F.ng s by have := e.lt; omega] at h

/-- the end of a group opens the next -/
theorem en_opens {n : Nat} {ng : Nat → Bool} {s : Nat} (hs : s < n) : enOf n ng s = n ∨ Opens ng (enOf n ng s) := by
  have e := enOf_spec ng hs
  rcases Nat.eq_or_lt_of_le e.le with h | h
  · exact .inl h
  · exact .inr (.inr (e.out h))
theorem en_ln {n : Nat} {ng : Nat → Bool} {s : Nat} (hs : s < n) : enOf n ng s = s + lnOf n ng s ∧ enOf n ng s ≤ n ∧ s < enOf n ng s := by
  have e := enOf_spec ng hs
  have h1 := e.lt
  have h2 := e.le
  unfold lnOf
  omega

/-- what is known of an element of the answer -/
theorem of_dl {F : Fs} {ex : Nat → Bool} {x : Nat} (h : x ∈ dl F ex (stOf F.ng) (lnOf F.n F.ng) F.n) : x < F.n ∧ stOf F.ng x = x ∧ Shn F (lnOf F.n F.ng) x ∧ ¬ Drp ex (lnOf F.n F.ng) x ∧ Vd F (stOf F.ng) (lnOf F.n F.ng) x := by
  obtain ⟨h1, h2⟩ := dl_mem.1 h
  obtain ⟨h3, h4, h5⟩ := qf_true.1 h2
  have := vd_st F x h1
  rw [h3] at this
  exact ⟨h1, h3, h4, h5, this⟩
end Go.Proofs.Qxb6618735a

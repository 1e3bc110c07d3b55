/- seat b6618735a: what excluding one file does to the report and to the shown groups -/
import Derived.Test.Qxb6618735aCtx
namespace Go.Proofs.Qxb6618735a
open Go.RowKit

/-- ex with file J excluded -/
def exJ (ex : Nat → Bool) (J : Nat) : Nat → Bool := fun i => if i = J then true else ex i

theorem Ctx.store {F : Fs} {ex : Nat → Bool} {Gb : Nat → Nat} {p : Option Addr} {BI off B J : Nat} {w : World} (C : Ctx F ex ex Gb p BI off B w) (hJ : J < F.n) (hBI : BI ≠ B) (hG : ∀ i, i < F.n → Gb (stOf F.ng i) ≠ B) :
    Ctx F ex (exJ ex J) Gb p BI off B (w.setCell ⟨B, J * 18 + 9, none⟩ (.bool true)) := by
  have far : ∀ {b i : Nat} {v : Value}, b ≠ B → w.cell? ⟨b, i, none⟩ = some v → (w.setCell ⟨B, J * 18 + 9, none⟩ (.bool true)).cell? ⟨b, i, none⟩ = some v := fun {b i v} hb h => by
    rw [World.cell?_setCell_other _ _ _ _ (fun e => hb (by injection e with e1; exact e1.symm))]; exact h
  have near : ∀ {o : Nat} {v : Value}, J * 18 + 9 ≠ o → w.cell? ⟨B, o, none⟩ = some v → (w.setCell ⟨B, J * 18 + 9, none⟩ (.bool true)).cell? ⟨B, o, none⟩ = some v := fun {o v} ho h => by
    rw [World.cell?_setCell_other _ _ _ _ (fun e => ho (by injection e))]; exact h
  obtain ⟨R, I, S, E⟩ := C
  refine ⟨⟨?_, far (by omega) R.files, fun i hi => near (by omega) (R.path i hi), fun i hi => near (by omega) (R.add i hi), fun i hi => near (by omega) (R.del i hi), fun i hi => ?_, fun i hi => near (by omega) (R.treat i hi), fun i hi => near (by omega) (R.group i hi), fun i hi t ht => far (hG i hi) (R.ptr i hi t ht)⟩,
    ⟨I.adr, fun i hi => far hBI (I.path i hi), fun i hi => far hBI (I.add i hi), fun i hi => far hBI (I.del i hi), fun i hi => far hBI (I.treat i hi), fun i hi => far hBI (I.exc i hi), fun i hi => far hBI (I.ng i hi)⟩,
    fun i hi => far (by omega) (S i hi), fun i hi => far (by omega) (E i hi)⟩
  · obtain ⟨cb, tb, h⟩ := R.row
    exact ⟨cb.setIfInBounds (J * 18 + 9) (.bool true), tb, by simp [World.setCell, Array.getElem?_modify, h]⟩
  · by_cases e : i = J
    · subst e
      rw [World.cell?_setCell_same (h := R.exc i hi)]
      simp [exJ]
    · rw [near (by omega) (R.exc i hi)]
      simp [exJ, e]

/-- a group is dropped by the exclusion just where it was dropped or holds the file -/
theorem drp_exJ {F : Fs} {ex : Nat → Bool} {J x : Nat} (hJ : J < F.n) (hx : x < F.n) (hs : stOf F.ng x = x) : Drp (exJ ex J) (lnOf F.n F.ng) x ↔ Drp ex (lnOf F.n F.ng) x ∨ x = stOf F.ng J := by
  have e1 := en_ln (ng := F.ng) hx
  constructor
  · rintro ⟨t, h1, h2⟩
    by_cases e : x + t = J
    · right
      have ho : Opens F.ng x := hs ▸ stOf_opens F.ng x
      have := in_group (n := F.n) ho hx (k := J) (by omega) (by omega)
      exact this.symm
    · left
      refine ⟨t, h1, ?_⟩
      simpa [exJ, e] using h2
  · rintro (⟨t, h1, h2⟩ | rfl)
    · exact ⟨t, h1, by simp [exJ, h2]⟩
    · have h1 := stOf_le F.ng J
      have h2 := lt_en F.ng hJ
      exact ⟨J - stOf F.ng J, by omega, by simp [exJ, show stOf F.ng J + (J - stOf F.ng J) = J by omega]⟩

theorem dl_exJ {F : Fs} {ex : Nat → Bool} {J : Nat} (hJ : J < F.n) :
    dl F (exJ ex J) (stOf F.ng) (lnOf F.n F.ng) F.n = (dl F ex (stOf F.ng) (lnOf F.n F.ng) F.n).filter (fun x => decide (x ≠ stOf F.ng J)) := by
  unfold dl
  rw [List.filter_filter]
  apply List.filter_congr
  intro x hx
  have hx : x < F.n := by simpa using hx
  rw [Bool.eq_iff_iff, Bool.and_eq_true, qf_true, qf_true, decide_eq_true_iff]
  constructor
  · rintro ⟨h1, h2, h3⟩
    rw [drp_exJ hJ hx h1] at h3
    exact ⟨fun h => h3 (.inr h), h1, h2, fun h => h3 (.inl h)⟩
  · rintro ⟨h0, h1, h2, h3⟩
    refine ⟨h1, h2, ?_⟩
    rw [drp_exJ hJ hx h1]
    rintro (h | h)
    · exact h3 h
    · exact h0 h

theorem after_eq {F : Fs} {ex : Nat → Bool} {J : Nat} (hJ : J < F.n) {Z Z' : List Nat} (h1 : Z.Perm (dl F ex (stOf F.ng) (lnOf F.n F.ng) F.n)) (h2 : Sd (ltc (cfOf F (lnOf F.n F.ng))) Z) (h3 : Z'.Perm (dl F (exJ ex J) (stOf F.ng) (lnOf F.n F.ng) F.n)) (h4 : Sd (ltc (cfOf F (lnOf F.n F.ng))) Z') :
    Z' = Z.filter (fun x => decide (x ≠ stOf F.ng J)) := by
  refine Sd.unique (swo_any F _) h4 (List.Pairwise.filter _ h2) ?_
  rw [dl_exJ hJ] at h3
  exact h3.trans (h1.filter _).symm

/-- the place of s among the first k of Z -/
def Ps (Z : List Nat) (s k : Nat) (pos : Int) : Prop := (pos = -1 ∧ s ∉ Z.take k) ∨ ∃ i : Nat, i < k ∧ pos = i ∧ Z.getD i 0 = s

theorem Ps.hit {Z : List Nat} {s k : Nat} (h : Z.getD k 0 = s) : Ps Z s (k + 1) k := .inr ⟨k, by omega, rfl, h⟩
theorem Ps.miss {Z : List Nat} {s k : Nat} {pos : Int} (hk : k < Z.length) (h : Z.getD k 0 ≠ s) (hp : Ps Z s k pos) : Ps Z s (k + 1) pos := by
  rcases hp with ⟨h1, h2⟩ | ⟨i, h1, h2, h3⟩
  · refine .inl ⟨h1, ?_⟩
    rw [List.take_succ_eq_append_getElem hk, List.mem_append, not_or]
    refine ⟨h2, ?_⟩
    rw [show Z.getD k 0 = Z[k] by simp [hk]] at h
    simpa using Ne.symm h
  · exact .inr ⟨i, by omega, h2, h3⟩

/-- both lists' elements, side by side -/
structure Sel (Z Z' : List Nat) (i : Nat) : Prop where
  len : Z'.length + 1 = Z.length
  lo : ∀ k, k < i → Z'.getD k 0 = Z.getD k 0
  hi : ∀ k, i ≤ k → Z'.getD k 0 = Z.getD (k + 1) 0

theorem sel_of {lt : Nat → Nat → Bool} (o : Swo lt) {Z : List Nat} (hs : Sd lt Z) {s i : Nat} (hi : i < Z.length) (h : Z.getD i 0 = s) : Sel Z (Z.filter (fun x => decide (x ≠ s))) i := by
  have hdec : Z = Z.take i ++ s :: Z.drop (i + 1) := by
    rw [← h, show Z.getD i 0 = Z[i] by simp [hi], ← List.drop_eq_getElem_cons hi, List.take_append_drop]
  have h1 : s ∉ Z.take i := fun hm => by
    rw [hdec] at hs
    exact (hs.cross _ hm _ (by simp)).irr o
  have h2 : s ∉ Z.drop (i + 1) := fun hm => by
    rw [hdec] at hs
    exact ((List.pairwise_cons.1 hs.right).1 _ hm).irr o
  have hf : Z.filter (fun x => decide (x ≠ s)) = Z.take i ++ Z.drop (i + 1) := by
    conv => lhs; rw [hdec]
    rw [List.filter_append, List.filter_cons]
    rw [List.filter_eq_self.2 (fun a ha => by simp; rintro rfl; exact h1 ha)]
    rw [List.filter_eq_self.2 (fun a ha => by simp; rintro rfl; exact h2 ha)]
    simp
  rw [hf]
  refine ⟨by simp; omega, fun k hk => ?_, fun k hk => ?_⟩
  · rw [getD_append, if_pos (by simp; omega)]
    simp [hk]
  · rw [getD_append, if_neg (by simp; omega)]
    simp [List.getElem?_drop]
    rw [show i + 1 + (k - min i Z.length) = k + 1 by omega]

theorem sel_none {Z : List Nat} {s : Nat} (h : s ∉ Z) : Z.filter (fun x => decide (x ≠ s)) = Z := by
  rw [List.filter_eq_self]
  intro a ha
  simp
  rintro rfl
  exact h ha
end Go.Proofs.Qxb6618735a

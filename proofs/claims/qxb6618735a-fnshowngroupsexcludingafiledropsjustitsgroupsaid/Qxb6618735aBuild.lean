/- seat b6618735a: b1BuildReport -/
import Derived.Test.Qxb6618735aRuns
namespace Go.Proofs.Qxb6618735a
open Go.RowKit

/-- the files as they are handed in -/
structure Inp (F : Fs) (ex : Nat → Bool) (p : Option Addr) (BI off : Nat) (w : World) : Prop where
  adr : 0 < F.n → p = some ⟨BI, off, none⟩
  path : ∀ i, i < F.n → w.cell? ⟨BI, off + i * 6, none⟩ = some (.string (F.path i))
  add : ∀ i, i < F.n → w.cell? ⟨BI, off + i * 6 + 1, none⟩ = some (.int .i64 (F.add i))
  del : ∀ i, i < F.n → w.cell? ⟨BI, off + i * 6 + 2, none⟩ = some (.int .i64 (F.del i))
  treat : ∀ i, i < F.n → w.cell? ⟨BI, off + i * 6 + 3, none⟩ = some (.string (F.treat i))
  exc : ∀ i, i < F.n → w.cell? ⟨BI, off + i * 6 + 4, none⟩ = some (.bool (ex i))
  ng : ∀ i, i < F.n → w.cell? ⟨BI, off + i * 6 + 5, none⟩ = some (.bool (F.ng i))

theorem Inp.keep {F : Fs} {ex : Nat → Bool} {p : Option Addr} {BI off : Nat} {w w' : World} (R : Inp F ex p BI off w) (h : ∀ k, k < w.heap.size → w'.heap[k]? = w.heap[k]?) : Inp F ex p BI off w' :=
  ⟨R.adr, fun i hi => cell_keep h (R.path i hi), fun i hi => cell_keep h (R.add i hi), fun i hi => cell_keep h (R.del i hi), fun i hi => cell_keep h (R.treat i hi), fun i hi => cell_keep h (R.exc i hi), fun i hi => cell_keep h (R.ng i hi)⟩

/-- the report's box and the files' block -/
structure Mem (B n : Nat) (w : World) (f : Nat → Value) (wr : World) : Prop where
  below : Below B w wr
  size : B + 2 ≤ wr.heap.size
  rep : wr.cell? ⟨B + 1, 4, none⟩ = some (.slice (some ⟨B, 0, none⟩) n n)
  F : Row wr B 42 (n * 18) f

/-- the plain fields of the files below k -/
structure Flds (F : Fs) (ex : Nat → Bool) (f : Nat → Value) (k : Nat) : Prop where
  path : ∀ i, i < k → f (i * 18) = .string (F.path i)
  add : ∀ i, i < k → f (i * 18 + 4) = .int .i64 (F.add i)
  del : ∀ i, i < k → f (i * 18 + 5) = .int .i64 (F.del i)
  exc : ∀ i, i < k → f (i * 18 + 9) = .bool (ex i)
  treat : ∀ i, i < k → f (i * 18 + 10) = .string (F.treat i)

section
variable {B n : Nat} {w wr : World} {f : Nat → Value}
theorem Mem.drewN (h : Mem B n w f wr) (q : Nat) : Mem B n w f (wr.drewN q) := ⟨⟨h.below.os, h.below.tape, h.below.output, h.below.size, h.below.block⟩, h.size, h.rep, h.F⟩
theorem Mem.drew (h : Mem B n w f wr) : Mem B n w f wr.drew := ⟨h.below.drew, h.size, h.rep, h.F⟩
theorem Mem.set (h : Mem B n w f wr) (o : Nat) (v : Value) : Mem B n w (upd f o v) (wr.setCell ⟨B, o, none⟩ v) :=
  ⟨h.below.setCell (Nat.le_refl _) v, by simpa [World.setCell] using h.size, by rw [World.cell?_of_block (w := wr) (Below.heap_setCell _ _ _ _ (by simp))]; exact h.rep, h.F.set o v⟩
theorem Mem.other (h : Mem B n w f wr) {a : Addr} (ha : B + 2 ≤ a.block) (v : Value) : Mem B n w f (wr.setCell a v) :=
  ⟨h.below.setCell (by omega) v, by simpa [World.setCell] using h.size, by rw [World.cell?_of_block (w := wr) (Below.heap_setCell _ _ _ _ (by simp; omega))]; exact h.rep, h.F.other (by omega) v⟩
theorem Mem.alloc (h : Mem B n w f wr) (o : Obj) : Mem B n w f (wr.alloc o) :=
  ⟨h.below.alloc (by have := h.size; omega) o, by have := h.size; simp; omega, by rw [World.cell?_alloc_past _ _ _ (by have := h.size; omega)]; exact h.rep, h.F.alloc o⟩
end

theorem Mem.step {B n : Nat} {w wr : World} {f : Nat → Value} (h : Mem B n w f wr ∧ wr.heap.size = B + 2) (o : Nat) (v : Value) : Mem B n w (upd f o v) (wr.setCell ⟨B, o, none⟩ v).drew ∧ (wr.setCell ⟨B, o, none⟩ v).drew.heap.size = B + 2 :=
  ⟨(h.1.set o v).drew, by simpa [World.setCell, World.drew] using h.2⟩

theorem Flds.next {F : Fs} {ex : Nat → Bool} {f : Nat → Value} {k : Nat} (h : Flds F ex f k) :
    Flds F ex (upd (upd (upd (upd (upd f (k * 18) (.string (F.path k))) (k * 18 + 4) (.int .i64 (F.add k))) (k * 18 + 5) (.int .i64 (F.del k))) (k * 18 + 10) (.string (F.treat k))) (k * 18 + 9) (.bool (ex k))) (k + 1) := by
  refine ⟨fun i hi => ?_, fun i hi => ?_, fun i hi => ?_, fun i hi => ?_, fun i hi => ?_⟩
  all_goals
    unfold upd
    by_cases e : i = k
    · subst e
      simp
    · repeat rw [if_neg (by omega)]
      first
      | exact h.path i (by omega)
      | exact h.add i (by omega)
      | exact h.del i (by omega)
      | exact h.exc i (by omega)
      | exact h.treat i (by omega)

/-- the plain fields stay when a group is set -/
theorem Flds.group {F : Fs} {ex : Nat → Bool} {f : Nat → Value} {k : Nat} (h : Flds F ex f k) (t : Nat) (v : Value) : Flds F ex (upd f (t * 18 + 13) v) k :=
  ⟨fun i hi => (upd_other f v (by omega)).trans (h.path i hi), fun i hi => (upd_other f v (by omega)).trans (h.add i hi), fun i hi => (upd_other f v (by omega)).trans (h.del i hi), fun i hi => (upd_other f v (by omega)).trans (h.exc i hi), fun i hi => (upd_other f v (by omega)).trans (h.treat i hi)⟩

theorem setGroup_any (w : World) (BF o : Nat) (q : Option Addr) (l cp : Nat) (c : ∃ u, w.cell? ⟨BF, o + 13, none⟩ = some u) (hf : w.frozen? ⟨BF, o + 13, none⟩ = false) :
    Calls Try.prog 15 #[.pointer (some ⟨BF, o, none⟩), .slice q l cp] w fun e w' => e = .returned (.tuple #[]) ∧ w' = w.setCell ⟨BF, o + 13, none⟩ (.slice q l cp) := by
  obtain ⟨u, c⟩ := c
  go_enter Try.func15, Try.ntmps15
  go_wp2
  go_end0
  exact ⟨rfl, rfl⟩

/-- the files below K have their group, start and end -/
structure Bst (F : Fs) (ex : Nat → Bool) (w : World) (f sf ef : Nat → Value) (Gb : Nat → Nat) (K : Nat) (wr : World) : Prop where
  mem : Mem w.heap.size F.n w f wr
  size : w.heap.size + 4 ≤ wr.heap.size
  S : Row wr (w.heap.size + 2) 3 F.n sf
  E : Row wr (w.heap.size + 3) 3 F.n ef
  flds : Flds F ex f F.n
  grp : ∀ t, t < K → f (t * 18 + 13) = encG Gb (lnOf F.n F.ng) (stOf F.ng t)
  st : ∀ t, t < K → sf t = .int .i64 (stOf F.ng t)
  en : ∀ t, t < K → ef t = .int .i64 (enOf F.n F.ng (stOf F.ng t))
  ptr : ∀ t, t < K → ∀ u, u < lnOf F.n F.ng (stOf F.ng t) → wr.cell? ⟨Gb (stOf F.ng t), u, none⟩ = some (.pointer (some ⟨w.heap.size, (stOf F.ng t + u) * 18, none⟩))
  far : ∀ t, t < K → w.heap.size + 4 ≤ Gb (stOf F.ng t)

/-- the block of the group that starts at i: its first T pointers laid -/
structure Gst (B i L T : Nat) (wr wg : World) : Prop where
  below : Below wr.heap.size wr wg
  size : wg.heap.size = wr.heap.size + 1
  row : ∃ pf, Row wg wr.heap.size 51 L pf ∧ ∀ u, u < T → pf u = .pointer (some ⟨B, (i + u) * 18, none⟩)

theorem Gst.set {B i L T : Nat} {wr wg : World} (h : Gst B i L T wr wg) {K : Nat} (hK : K = i + T) : Gst B i L (T + 1) wr (wg.setCell ⟨wr.heap.size, T, none⟩ (.pointer (some ⟨B, K * 18, none⟩))) := by
  obtain ⟨h1, h2, pf, h3, h4⟩ := h
  subst hK
  refine ⟨h1.setCell (Nat.le_refl _) _, by simpa [World.setCell] using h2, _, h3.set T _, fun u hu => ?_⟩
  unfold upd
  by_cases e : u = T
  · subst e; simp
  · rw [if_neg e]; exact h4 u (by omega)

theorem Bst.open {F : Fs} {ex : Nat → Bool} {w wr wg : World} {f sf ef : Nat → Value} {Gb : Nat → Nat} {i L : Nat} (h : Bst F ex w f sf ef Gb i wr) (g : Gst w.heap.size i L L wr wg) :
    Bst F ex w f sf ef (fun x => if x = i then wr.heap.size else Gb x) i wg := by
  have hb := g.below.block
  have hs := h.size
  have hne : ∀ t, t < i → stOf F.ng t ≠ i := fun t ht => by have := stOf_le F.ng t; omega
  refine ⟨⟨⟨g.below.os.trans h.mem.below.os, g.below.tape.trans h.mem.below.tape, g.below.output.trans h.mem.below.output, by have := g.size; have := h.mem.below.size; omega, fun k hk => (hb k (by omega)).trans (h.mem.below.block k hk)⟩, by have := g.size; omega, cell_keep hb h.mem.rep, h.mem.F.keep (hb _ (by omega))⟩, by have := g.size; omega, h.S.keep (hb _ (by omega)), h.E.keep (hb _ (by omega)), h.flds, fun t ht => ?_, h.st, h.en, fun t ht u hu => ?_, fun t ht => ?_⟩
  · rw [h.grp t ht]; simp [hne t ht]
  · simp only [if_neg (hne t ht)]; exact cell_keep hb (h.ptr t ht u hu)
  · simp only [if_neg (hne t ht)]; exact h.far t ht

theorem Bst.next {F : Fs} {ex : Nat → Bool} {w wr : World} {f sf ef : Nat → Value} {Gb : Nat → Nat} {K i : Nat} (h : Bst F ex w f sf ef Gb K wr) (hst : stOf F.ng K = i)
    (hg : ∀ u, u < lnOf F.n F.ng i → wr.cell? ⟨Gb i, u, none⟩ = some (.pointer (some ⟨w.heap.size, (i + u) * 18, none⟩))) (hf : w.heap.size + 4 ≤ Gb i) :
    Bst F ex w (upd f (K * 18 + 13) (encG Gb (lnOf F.n F.ng) i)) (upd sf K (.int .i64 i)) (upd ef K (.int .i64 (enOf F.n F.ng i))) Gb (K + 1)
      (((wr.setCell ⟨w.heap.size, K * 18 + 13, none⟩ (encG Gb (lnOf F.n F.ng) i)).setCell ⟨w.heap.size + 2, K, none⟩ (.int .i64 i)).setCell ⟨w.heap.size + 3, K, none⟩ (.int .i64 (enOf F.n F.ng i))) := by
  have hother : ∀ (b u : Nat), w.heap.size + 4 ≤ b → World.cell? (((wr.setCell ⟨w.heap.size, K * 18 + 13, none⟩ (encG Gb (lnOf F.n F.ng) i)).setCell ⟨w.heap.size + 2, K, none⟩ (.int .i64 i)).setCell ⟨w.heap.size + 3, K, none⟩ (.int .i64 (enOf F.n F.ng i))) ⟨b, u, none⟩ = wr.cell? ⟨b, u, none⟩ := fun b u hb => by
    rw [World.cell?_of_block (Below.heap_setCell _ _ _ _ (by simp; omega)), World.cell?_of_block (Below.heap_setCell _ _ _ _ (by simp; omega)), World.cell?_of_block (Below.heap_setCell _ _ _ _ (by simp; omega))]
  refine ⟨((h.mem.set _ _).other (by simp) _).other (by simp) _, by have := h.size; simpa [World.setCell] using this, ((h.S.other (by simp) _).set _ _).other (by simp) _, ((h.E.other (by simp) _).other (by simp) _).set _ _, h.flds.group K _, fun t ht => ?_, fun t ht => ?_, fun t ht => ?_, fun t ht u hu => ?_, fun t ht => ?_⟩
  all_goals rcases Nat.eq_or_lt_of_le (Nat.le_of_lt_succ ht) with e | e
  · subst e; rw [upd_same, hst]
  · rw [upd_other _ _ (by omega)]; exact h.grp t e
  · subst e; rw [upd_same, hst]
  · rw [upd_other _ _ (by omega)]; exact h.st t e
  · subst e; rw [upd_same, hst]
  · rw [upd_other _ _ (by omega)]; exact h.en t e
  · subst e; rw [hst] at hu ⊢; rw [hother _ _ hf]; exact hg u hu
  · rw [hother _ _ (h.far t e)]; exact h.ptr t e u hu
  · subst e; rw [hst]; exact hf
  · exact h.far t e

def buildPost (F : Fs) (ex : Nat → Bool) (w : World) (e : Ending) (w' : World) : Prop :=
  ∃ f sf ef Gb, e = .returned (.tuple #[.pointer (some ⟨w.heap.size + 1, 0, none⟩), .slice (some ⟨w.heap.size + 2, 0, none⟩) F.n F.n, .slice (some ⟨w.heap.size + 3, 0, none⟩) F.n F.n]) ∧ Bst F ex w f sf ef Gb F.n w'

set_option maxHeartbeats 6400000 in
set_option maxRecDepth 100000 in
theorem build_any (F : Fs) (ex : Nat → Bool) (p : Option Addr) (cap BI off : Nat) (w : World) (hn : F.n ≤ 4096) (I : Inp F ex p BI off w) :
    Calls Try.prog 7 #[.slice p F.n cap] w fun e w' => buildPost F ex w e w' := by
  have HI : Hid (Inp F ex p BI off w) := I
  obtain ⟨o1, f1, r1, R1⟩ := make_row 43 42 18 Try.underlying43 size42 F.n (by omega)
  obtain ⟨o2, f2, r2, R2⟩ := make_row 25 3 1 Try.underlying25 size3 F.n (by omega)
  clear I
  go_enter Try.func7, Try.ntmps7
  go_wp2
  obtain ⟨B, hB⟩ : ∃ B, B = w.heap.size := ⟨_, rfl⟩
  go_loopw [7] (fun i wr => ∃ k : Nat, k ≤ F.n ∧ i = .int .i64 k ∧ Hid (∃ f, (Mem w.heap.size F.n w f wr ∧ wr.heap.size = w.heap.size + 2) ∧ Flds F ex f k)) (fun i _ => F.n - (intOf i).toNat)
  case atStart =>
    refine ⟨0, by omega, rfl, f1, ⟨⟨((Below.refl _ w).alloc (Nat.le_refl _) _).alloc (by simp) _, by simp, ?_, (R1 w).alloc _⟩, by simp⟩, ⟨fun i hi => by omega, fun i hi => by omega, fun i hi => by omega, fun i hi => by omega, fun i hi => by omega⟩⟩
    rw [World.cell?_alloc_at _ _ _ _ (by simp)]
    rfl
  case round =>
    obtain ⟨k, hk, rfl, HM⟩ := hrel
    by_cases hlt : k < F.n
    · obtain ⟨f, M1, hfl⟩ := HM.out
      have HF1 := hide hfl
      have HM0 := hide M1
      obtain rfl := HI.out.adr (by omega)
      clear M1 hfl HM
      have c0 := (HI.out.keep HM0.out.1.below.block).path k hlt
      have d0 := HM0.out.1.rep
      have e0 := HM0.out.1.F.cell (i := k * 18) (by omega)
      have g0 := HM0.out.1.F.free (k * 18)
      go_wp2
      go_region
      have HM1 := hide (Mem.step HM0.out (k * 18) (.string (F.path k)))
      generalize World.drew (World.setCell wr ⟨w.heap.size, k * 18, none⟩ (.string (F.path k))) = w1 at HM1 ⊢
      clear c0 d0 e0 g0
      have c0 := (HI.out.keep HM1.out.1.below.block).add k hlt
      have d0 := HM1.out.1.rep
      have e0 := HM1.out.1.F.cell (i := k * 18 + 4) (by omega)
      have g0 := HM1.out.1.F.free (k * 18 + 4)
      go_wp2
      go_region
      have HM2 := hide (Mem.step HM1.out (k * 18 + 4) (.int .i64 (F.add k)))
      generalize World.drew (World.setCell w1 ⟨w.heap.size, k * 18 + 4, none⟩ (.int .i64 (F.add k))) = w2 at HM2 ⊢
      clear c0 d0 e0 g0
      have c0 := (HI.out.keep HM2.out.1.below.block).del k hlt
      have d0 := HM2.out.1.rep
      have e0 := HM2.out.1.F.cell (i := k * 18 + 5) (by omega)
      have g0 := HM2.out.1.F.free (k * 18 + 5)
      go_wp2
      go_region
      have HM3 := hide (Mem.step HM2.out (k * 18 + 5) (.int .i64 (F.del k)))
      generalize World.drew (World.setCell w2 ⟨w.heap.size, k * 18 + 5, none⟩ (.int .i64 (F.del k))) = w3 at HM3 ⊢
      clear c0 d0 e0 g0
      have c0 := (HI.out.keep HM3.out.1.below.block).treat k hlt
      have d0 := HM3.out.1.rep
      have e0 := HM3.out.1.F.cell (i := k * 18 + 10) (by omega)
      have g0 := HM3.out.1.F.free (k * 18 + 10)
      go_wp2
      go_region
      have HM4 := hide (Mem.step HM3.out (k * 18 + 10) (.string (F.treat k)))
      generalize World.drew (World.setCell w3 ⟨w.heap.size, k * 18 + 10, none⟩ (.string (F.treat k))) = w4 at HM4 ⊢
      clear c0 d0 e0 g0
      have c0 := (HI.out.keep HM4.out.1.below.block).exc k hlt
      have d0 := HM4.out.1.rep
      have e0 := HM4.out.1.F.cell (i := k * 18 + 9) (by omega)
      have g0 := HM4.out.1.F.free (k * 18 + 9)
      go_wp2
      go_region
      have HM5 := hide (Mem.step HM4.out (k * 18 + 9) (.bool (ex k)))
      generalize World.drew (World.setCell w4 ⟨w.heap.size, k * 18 + 9, none⟩ (.bool (ex k))) = w5 at HM5 ⊢
      clear c0 d0 e0 g0
      go_wp2
      go_roundw
      case rel => exact ⟨k + 1, by omega, by go_num, _, HM5.out, HF1.out.next⟩
      case measure => simp [intOf]; omega
    · obtain rfl : k = F.n := by omega
      have H0 : Hid (wr.heap.size = w.heap.size + 2 ∧ ∃ f sf ef Gb, Bst F ex w f sf ef Gb 0 ((wr.alloc o2).alloc o2)) := by
        obtain ⟨f, M, hfl⟩ := HM.out
        have h2 := R2 wr
        have h3 := R2 (wr.alloc o2)
        rw [Nat.mul_one] at h2 h3
        rw [M.2] at h2
        rw [show (wr.alloc o2).heap.size = w.heap.size + 3 by simp [M.2]] at h3
        exact ⟨M.2, f, f2, f2, fun _ => 0, (M.1.alloc _).alloc _, by simp [M.2], h2.alloc _, h3, hfl, fun t ht => by omega, fun t ht => by omega, fun t ht => by omega, fun t ht => by omega, fun t ht => by omega⟩
      have hsz := H0.out.1
      clear HM
      go_wp2
      go_loopw [10] (fun x wr => ∃ i : Nat, i ≤ F.n ∧ x = .int .i64 i ∧ Hid ((i = F.n ∨ Opens F.ng i) ∧ ∃ f sf ef Gb, Bst F ex w f sf ef Gb i wr)) (fun x _ => F.n - (intOf x).toNat)
      case atStart => exact ⟨0, by omega, rfl, .inr (.inl rfl), H0.out.2⟩
      case round =>
        obtain ⟨i, hi, rfl, HB⟩ := hrel
        clear H0
        by_cases hin : i < F.n
        · obtain rfl := HI.out.adr (by omega)
          have HO : Hid (Opens F.ng i) := by rcases HB.out.1 with h | h; (· omega); exact h
          go_wp2
          go_loopw [11] (fun x wr' => ∃ j : Nat, i < j ∧ j ≤ F.n ∧ x = .int .i64 j ∧ wr' = wr ∧ Hid (∀ k, i < k → k < j → F.ng k = false)) (fun x _ => F.n - (intOf x).toNat)
          case atStart => exact ⟨i + 1, by omega, by omega, by go_num, rfl, fun k h1 h2 => by omega⟩
          case round =>
            obtain ⟨j, hj1, hj2, rfl, hw, HJ⟩ := hrel
            obtain rfl := hw.symm
            by_cases hj : j < F.n ∧ F.ng j = false
            · obtain ⟨hjn, hng⟩ := hj
              have cj : wr.cell? ⟨BI, off + j * 6 + 5, none⟩ = some (.bool false) := by
                obtain ⟨f, sf, ef, Gb, h⟩ := HB.out.2
                rw [← hng]; exact (HI.out.keep h.mem.below.block).ng j hjn
              have HJ' : Hid (∀ k, i < k → k < j + 1 → F.ng k = false) := fun k h1 h2 => by
                rcases Nat.eq_or_lt_of_le (Nat.le_of_lt_succ h2) with e | e
                · rw [e]; exact hng
                · exact HJ.out k h1 e
              go_wp2
              go_roundw
              case rel => exact ⟨j + 1, by omega, by omega, by go_num, trivial, HJ'⟩
              case measure => simp [intOf]; omega
            · have hE : Hid (j = enOf F.n F.ng i) := by
                refine Ends.eq ⟨hj1, hj2, HJ.out, fun h => ?_⟩
                cases hg : F.ng j
                · exact absurd ⟨h, hg⟩ hj
                · rfl
              have hx : j = F.n ∨ (j < F.n ∧ F.ng j = true) := by
                rcases Nat.eq_or_lt_of_le hj2 with e | e
                · exact .inl e
                · refine .inr ⟨e, ?_⟩
                  cases hg : F.ng j
                  · exact absurd ⟨e, hg⟩ hj
                  · rfl
              have HO2 : Hid (j = F.n ∨ Opens F.ng j) := hx.imp id fun h => .inr h.2
              obtain ⟨L, hL⟩ : ∃ L, j = i + L := ⟨j - i, by omega⟩
              have hLi : (j : Int) - (i : Int) = (L : Int) := by omega
              have hLn : L ≤ F.n := by omega
              obtain ⟨o3, f3, r3, R3⟩ := make_row 33 51 1 Try.underlying33 size51 L (by omega)
              rw [Nat.mul_one] at R3
              have HL : Hid (j = i + L) := hL
              have HG0 : Hid (Gst w.heap.size i L 0 wr (wr.alloc o3)) := ⟨(Below.refl _ _).alloc (Nat.le_refl _) _, by simp, f3, R3 wr, fun u hu => by omega⟩
              clear R3 hj HJ hL
              have cj : j < F.n → wr.cell? ⟨BI, off + j * 6 + 5, none⟩ = some (.bool true) := fun hjn => by
                rcases hx with e | ⟨_, hng⟩
                · omega
                · obtain ⟨f, sf, ef, Gb, h⟩ := HB.out.2
                  rw [← hng]; exact (HI.out.keep h.mem.below.block).ng j hjn
              clear hx
              rename World => wo
              by_cases hjn : j < F.n
              all_goals
                first | have cj := cj hjn | clear cj
                go_wp2
                go_loopw [13] (fun x wg => ∃ K T : Nat, T ≤ L ∧ x = .int .i64 K ∧ Hid (K = i + T) ∧ Hid (Gst w.heap.size i L T wo wg)) (fun x _ => F.n - (intOf x).toNat)
                case atStart => exact ⟨i, 0, by omega, rfl, (by show i = i + 0; omega), HG0⟩
                case round =>
                  rename World => wg
                  obtain ⟨K, T, hT, rfl, HK, HG⟩ := hrel
                  by_cases hTL : T < L
                  · have hsub : (K : Int) - (i : Int) = (T : Int) := by have := HK.out; omega
                    have hKj : K < j := by have := HK.out; have := HL.out; omega
                    have hKn : K < F.n := by omega
                    have d0 : wg.cell? ⟨w.heap.size + 1, 4, none⟩ = some (.slice (some ⟨w.heap.size, 0, none⟩) F.n F.n) := by
                      obtain ⟨f, sf, ef, Gb, h⟩ := HB.out.2
                      exact cell_keep HG.out.below.block h.mem.rep
                    obtain ⟨pf, hpf, _⟩ := HG.out.row
                    have e0 := hpf.cell hTL
                    have g0 := hpf.free T
                    clear hpf
                    have HG' := hide (HG.out.set HK.out)
                    go_wp2
                    go_roundw
                    case rel => exact ⟨K + 1, T + 1, by omega, by go_num, (by show K + 1 = i + (T + 1); have := HK.out; omega), HG'⟩
                    case measure => simp [intOf]; omega
                  · obtain rfl : T = L := by omega
                    obtain rfl : K = j := by have := HK.out; have := HL.out; omega
                    have hln : Hid (lnOf F.n F.ng i = T) := by show lnOf F.n F.ng i = T; have := HL.out; have := hE.out; unfold lnOf; omega
                    have H5 : Hid (w.heap.size + 4 ≤ wo.heap.size ∧ ∃ f sf ef Gb, Bst F ex w f sf ef Gb i wg ∧ Gb i = wo.heap.size ∧ ∀ u, u < T → wg.cell? ⟨wo.heap.size, u, none⟩ = some (.pointer (some ⟨w.heap.size, (i + u) * 18, none⟩))) := by
                      obtain ⟨f, sf, ef, Gb, h⟩ := HB.out.2
                      obtain ⟨pf, hpf, hpp⟩ := HG.out.row
                      exact ⟨h.size, f, sf, ef, _, h.open HG.out, by simp, fun u hu => by rw [hpf.cell hu, hpp u hu]⟩
                    clear HG HG0 HB HK
                    go_wp2
                    go_loopw [14] (fun x wk => ∃ K' : Nat, i ≤ K' ∧ K' ≤ K ∧ x = .int .i64 K' ∧ Hid (∃ f sf ef Gb, Bst F ex w f sf ef Gb K' wk ∧ Gb i = wo.heap.size ∧ ∀ u, u < T → wk.cell? ⟨wo.heap.size, u, none⟩ = some (.pointer (some ⟨w.heap.size, (i + u) * 18, none⟩)))) (fun x _ => F.n - (intOf x).toNat)
                    case atStart => exact ⟨i, by omega, by omega, rfl, H5.out.2⟩
                    case round =>
                      rename World => wk
                      obtain ⟨K', hK1, hK2, rfl, HQ⟩ := hrel
                      by_cases hKK : K' < K
                      · have hKn : K' < F.n := by omega
                        obtain ⟨f, sf, ef, Gb, h, hG, hP⟩ := HQ.out
                        have d0 := h.mem.rep
                        have e0 := h.mem.F.cell (i := K' * 18 + 13) (by omega)
                        have g0 := h.mem.F.free (K' * 18 + 13)
                        have c := setGroup_any wk w.heap.size (K' * 18) (some ⟨wo.heap.size, 0, none⟩) T T ⟨_, e0⟩ g0
                        have HN : Hid (∀ w1, w1 = wk.setCell ⟨w.heap.size, K' * 18 + 13, none⟩ (.slice (some ⟨wo.heap.size, 0, none⟩) T T) → ∃ f sf ef Gb, Bst F ex w f sf ef Gb (K' + 1) ((w1.setCell ⟨w.heap.size + 2, K', none⟩ (.int .i64 i)).setCell ⟨w.heap.size + 2 + 1, K', none⟩ (.int .i64 K)) ∧ Gb i = wo.heap.size ∧ ∀ u, u < T → ((w1.setCell ⟨w.heap.size + 2, K', none⟩ (.int .i64 i)).setCell ⟨w.heap.size + 2 + 1, K', none⟩ (.int .i64 K)).cell? ⟨wo.heap.size, u, none⟩ = some (.pointer (some ⟨w.heap.size, (i + u) * 18, none⟩))) := by
                          rintro w1 rfl
                          have hs4 := H5.out.1
                          have hn := h.next (K := K') (i := i) (in_group HO.out hin hK1 (by rw [← hE.out]; exact hKK)) (fun u hu => by rw [hG]; exact hP u (by rw [← hln.out]; exact hu)) (by rw [hG]; exact hs4)
                          rw [← hE.out] at hn
                          unfold encG at hn
                          rw [hG, hln.out] at hn
                          refine ⟨_, _, _, Gb, hn, hG, fun u hu => ?_⟩
                          rw [World.cell?_of_block (Below.heap_setCell _ _ _ _ (by simp; omega)), World.cell?_of_block (Below.heap_setCell _ _ _ _ (by simp; omega)), World.cell?_of_block (Below.heap_setCell _ _ _ _ (by simp; omega))]
                          exact hP u hu
                        have HRS := hide h.S
                        have HRE := hide h.E
                        clear h hG hP HQ H5
                        go_wp2_with fail
                        refine c.mono ?_
                        rintro e w1 ⟨rfl, hw1⟩
                        have s1 : Row w1 (w.heap.size + 2) 3 F.n sf := by rw [hw1]; exact HRS.out.other (by simp) _
                        have s2 : Row w1 (w.heap.size + 2 + 1) 3 F.n ef := by rw [hw1]; exact HRE.out.other (by simp) _
                        have e1 := s1.cell hKn
                        have g1 := s1.free K'
                        have e2 := s2.cell hKn
                        have g2 := s2.free K'
                        have HZ := hide (HN.out w1 hw1)
                        clear hw1 s1 s2 d0 e0 g0 c HN HRS HRE
                        go_wp2
                        go_roundw
                        case rel => exact ⟨K' + 1, by omega, by omega, by go_num, HZ.out⟩
                        case measure => simp [intOf]; omega
                      · obtain rfl : K' = K := by omega
                        have HZ : Hid (∃ f sf ef Gb, Bst F ex w f sf ef Gb K' wk) := by obtain ⟨f, sf, ef, Gb, h, _⟩ := HQ.out; exact ⟨f, sf, ef, Gb, h⟩
                        clear HQ H5
                        go_wp2
                        go_roundw
                        case rel => exact ⟨K', by omega, by go_num, HO2.out, HZ.out⟩
                        case measure => simp [intOf]; omega
        · obtain rfl : i = F.n := by omega
          have HP := hide HB.out.2
          clear HB
          go_wp2
          go_ret3
          obtain ⟨f, sf, ef, Gb, h⟩ := HP.out
          exact ⟨f, sf, ef, Gb, rfl, h⟩
end Go.Proofs.Qxb6618735a

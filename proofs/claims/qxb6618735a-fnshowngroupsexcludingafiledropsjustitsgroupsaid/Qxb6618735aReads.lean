/- seat b6618735a: the laws' own helpers: b1Qualifies, b1StartOf, b1IsGroup, b1SameGroup, b1Size -/
import Derived.Test.Qxb6618735aBuild
namespace Go.Proofs.Qxb6618735a
open Go.RowKit

def qualPost (F : Fs) (ex : Nat → Bool) (ln : Nat → Nat) (s : Nat) (w : World) (e : Ending) (w' : World) : Prop :=
  ∃ z : Bool, e = .returned (.bool z) ∧ w' = w ∧ (z = true ↔ Shn F ln s ∧ ¬ Drp ex ln s)

set_option maxHeartbeats 800000 in
theorem qual_any (F : Fs) (ex : Nat → Bool) (p : Option Addr) (cap BI off : Nat) (w : World) (hn : F.n ≤ 4096) (I : Inp F ex p BI off w) (ln : Nat → Nat) (s e : Nat) (he : e = s + ln s) (hen : e ≤ F.n) (hs : s < F.n) :
    Calls Try.prog 9 #[.slice p F.n cap, .int .i64 s, .int .i64 e] w fun e w' => qualPost F ex ln s w e w' := by
  obtain rfl := I.adr (by omega)
  have HI : Hid (Inp F ex (some ⟨BI, off, none⟩) BI off w) := I
  have HE : Hid (e = s + ln s) := he
  have hse : s ≤ e := by omega
  clear I he
  go_enter Try.func9, Try.ntmps9
  go_wp2
  go_loopw [7, 8] (fun x y wr => ∃ (K : Nat) (b : Bool), s ≤ K ∧ K ≤ e ∧ x = .bool b ∧ y = .int .i64 K ∧ wr = w ∧ Hid ((∀ u, s + u < K → ex (s + u) = false) ∧ (b = true ↔ ∃ u, s + u < K ∧ isSt (F.treat (s + u)) = false))) (fun _ y _ => F.n - (intOf y).toNat)
  case atStart => exact ⟨s, false, by omega, by omega, rfl, rfl, rfl, fun u hu => by omega, ⟨fun h => by simp at h, fun ⟨u, h, _⟩ => by omega⟩⟩
  case round =>
    obtain ⟨K, b, hK1, hK2, rfl, rfl, hw, HK⟩ := hrel
    obtain rfl := hw.symm
    by_cases hlt : K < e
    · have hKn : K < F.n := by omega
      have c1 := HI.out.exc K hKn
      have c2 := HI.out.treat K hKn
      cases hx : ex K with
      | true =>
        rw [hx] at c1
        have HP : Hid (Drp ex ln s) := ⟨K - s, by have := HE.out; omega, by rw [show s + (K - s) = K by omega]; exact hx⟩
        go_wp2
        go_ret
        exact ⟨_, rfl, rfl, fun h => by simp at h, fun h => absurd HP.out h.2⟩
      | false =>
        rw [hx] at c1
        have HX : Hid (∀ u, s + u < K + 1 → ex (s + u) = false) := fun u hu => by
          rcases Nat.eq_or_lt_of_le (Nat.le_of_lt_succ hu) with e | e
          · rw [e]; exact hx
          · exact HK.out.1 u e
        cases ht : isSt (F.treat K) with
        | true =>
          have h1 := isSt_pos ht
          have HT : Hid (b = true ↔ ∃ u, s + u < K + 1 ∧ isSt (F.treat (s + u)) = false) := by
            refine HK.out.2.trans ⟨fun ⟨u, h1, h2⟩ => ⟨u, by omega, h2⟩, fun ⟨u, h1, h2⟩ => ⟨u, ?_, h2⟩⟩
            rcases Nat.eq_or_lt_of_le (Nat.le_of_lt_succ h1) with e | e
            · rw [e, ht] at h2; cases h2
            · exact e
          go_wp2
          go_roundw
          case rel => exact ⟨K + 1, b, by omega, by omega, rfl, by go_num, trivial, HX.out, HT.out⟩
          case measure => simp [intOf]; omega
        | false =>
          have h1 := isSt_neg ht
          have HT : Hid (true = true ↔ ∃ u, s + u < K + 1 ∧ isSt (F.treat (s + u)) = false) := ⟨fun _ => ⟨K - s, by omega, by rw [show s + (K - s) = K by omega]; exact ht⟩, fun _ => rfl⟩
          go_wp2
          go_roundw
          case rel => exact ⟨K + 1, true, by omega, by omega, rfl, by go_num, trivial, HX.out, HT.out⟩
          case measure => simp [intOf]; omega
    · obtain rfl : K = e := by omega
      have HP : Hid (b = true ↔ Shn F ln s ∧ ¬ Drp ex ln s) := by
        have hE := HE.out
        refine HK.out.2.trans ⟨fun ⟨u, h1, h2⟩ => ⟨⟨u, by omega, h2⟩, fun ⟨v, h3, h4⟩ => by have := HK.out.1 v (by omega); rw [h4] at this; cases this⟩, fun ⟨⟨u, h1, h2⟩, _⟩ => ⟨u, by omega, h2⟩⟩
      go_wp2
      go_ret
      exact ⟨b, rfl, rfl, HP.out⟩

set_option maxHeartbeats 800000 in
theorem startOf_any (F : Fs) (ex : Nat → Bool) (st ln Gb : Nat → Nat) (BR BF : Nat) (w : World) (x : Nat) (hn : F.n ≤ 4096) (R : Rep F ex st ln Gb BR BF w) (v : Vd F st ln x) :
    Calls Try.prog 10 #[.pointer (some ⟨BR, 0, none⟩), encG Gb ln x] w fun e w' => e = .returned (.int .i64 x) ∧ ∃ q, w' = w.drewN q := by
  have HR : Hid (Rep F ex st ln Gb BR BF w) := R
  have HV : Hid (Vd F st ln x) := v
  have hx := v.lt
  have hp := v.pos
  clear R v
  go_enter Try.func10, Try.ntmps10
  go_wp2
  go_loopw [5] (fun y wr => ∃ k : Nat, k ≤ x ∧ y = .int .i64 k ∧ Hid (∃ q, wr = w.drewN q)) (fun y _ => F.n - (intOf y).toNat)
  case atStart => exact ⟨0, by omega, rfl, 0, rfl⟩
  case round =>
    obtain ⟨k, hk, rfl, HQ⟩ := hrel
    have R2 : Rep F ex st ln Gb BR BF wr := by obtain ⟨q, rfl⟩ := HQ.out; exact HR.out.drewN q
    have d0 := R2.files
    have d1 := R2.at0 HV.out
    have he := fun m => run_ptr_eql (R2.drewN m).row x k
    have HP : Hid (∀ m, ∃ q, wr.drewN m = w.drewN q) := fun m => by obtain ⟨q, rfl⟩ := HQ.out; exact ⟨q + m, drewN_two _ _ _⟩
    clear R2 HQ
    by_cases hxk : x = k
    · simp only [decide_eq_true hxk] at he
      subst hxk
      go_wp2
      go_quiet (fail)
      go_wp2
      go_ret
      exact ⟨rfl, HP.out nq⟩
    · simp only [decide_eq_false hxk] at he
      go_wp2
      go_quiet (fail)
      go_wp2
      go_roundw
      case rel => exact ⟨k + 1, by omega, by go_num, HP.out nq⟩
      case measure => simp [intOf]; omega

set_option maxHeartbeats 800000 in
theorem isGroup_any (F : Fs) (ex : Nat → Bool) (st ln Gb : Nat → Nat) (BR BF : Nat) (w : World) (x e : Nat) (hn : F.n ≤ 4096) (R : Rep F ex st ln Gb BR BF w) (v : Vd F st ln x) (he : e = x + ln x) :
    Calls Try.prog 11 #[.pointer (some ⟨BR, 0, none⟩), encG Gb ln x, .int .i64 x, .int .i64 e] w fun e w' => e = .returned (.bool true) ∧ ∃ q, w' = w.drewN q := by
  have HR : Hid (Rep F ex st ln Gb BR BF w) := R
  have HV : Hid (Vd F st ln x) := v
  have hx := v.lt
  have hp := v.pos
  have hle := v.le
  have hex : (e : Int) - (x : Int) = (ln x : Int) := by omega
  have HE : Hid (e = x + ln x) := he
  have hen : e ≤ F.n := by omega
  clear R v he
  go_enter Try.func11, Try.ntmps11
  go_wp2
  go_loopw [9] (fun y wr => ∃ t : Nat, t ≤ ln x ∧ y = .int .i64 t ∧ Hid (∃ q, wr = w.drewN q)) (fun y _ => F.n - (intOf y).toNat)
  case atStart => exact ⟨0, by omega, rfl, 0, rfl⟩
  case round =>
    obtain ⟨t, ht, rfl, HQ⟩ := hrel
    have R2 : Rep F ex st ln Gb BR BF wr := by obtain ⟨q, rfl⟩ := HQ.out; exact HR.out.drewN q
    have HP : Hid (∀ m, ∃ q, wr.drewN m = w.drewN q) := fun m => by obtain ⟨q, rfl⟩ := HQ.out; exact ⟨q + m, drewN_two _ _ _⟩
    by_cases hlt : t < ln x
    · have d0 := R2.files
      have d1 := R2.at HV.out t hlt
      have he := fun m => run_ptr_neq (R2.drewN m).row (x + t) (x + t)
      simp only [decide_eq_true, Bool.not_true] at he
      clear R2 HQ
      go_wp2
      go_quiet (fail)
      go_wp2
      go_roundw
      case rel => exact ⟨t + 1, by omega, by go_num, HP.out nq⟩
      case measure => simp [intOf]; omega
    · obtain rfl : t = ln x := by omega
      clear R2
      go_wp2
      go_ret
      exact ⟨rfl, HQ.out⟩

set_option maxHeartbeats 800000 in
theorem sameGroup_any (F : Fs) (ex : Nat → Bool) (st ln Gb : Nat → Nat) (BR BF : Nat) (w : World) (x : Nat) (hn : F.n ≤ 4096) (R : Rep F ex st ln Gb BR BF w) (v : Vd F st ln x) :
    Calls Try.prog 14 #[encG Gb ln x, encG Gb ln x] w fun e w' => e = .returned (.bool true) ∧ ∃ q, w' = w.drewN q := by
  have HR : Hid (Rep F ex st ln Gb BR BF w) := R
  have HV : Hid (Vd F st ln x) := v
  have hx := v.lt
  have hp := v.pos
  have hle := v.le
  clear R v
  go_enter Try.func14, Try.ntmps14
  go_wp2
  go_loopw [5] (fun y wr => ∃ t : Nat, t ≤ ln x ∧ y = .int .i64 t ∧ Hid (∃ q, wr = w.drewN q)) (fun y _ => F.n - (intOf y).toNat)
  case atStart => exact ⟨0, by omega, rfl, 0, rfl⟩
  case round =>
    obtain ⟨t, ht, rfl, HQ⟩ := hrel
    have R2 : Rep F ex st ln Gb BR BF wr := by obtain ⟨q, rfl⟩ := HQ.out; exact HR.out.drewN q
    have HP : Hid (∀ m, ∃ q, wr.drewN m = w.drewN q) := fun m => by obtain ⟨q, rfl⟩ := HQ.out; exact ⟨q + m, drewN_two _ _ _⟩
    by_cases hlt : t < ln x
    · have d1 := R2.at HV.out t hlt
      have he := fun m => run_ptr_neq (R2.drewN m).row (x + t) (x + t)
      simp only [decide_eq_true, Bool.not_true] at he
      clear R2 HQ
      go_wp2
      go_quiet (fail)
      go_wp2
      go_roundw
      case rel => exact ⟨t + 1, by omega, by go_num, HP.out nq⟩
      case measure => simp [intOf]; omega
    · obtain rfl : t = ln x := by omega
      clear R2
      go_wp2
      go_ret
      exact ⟨rfl, HQ.out⟩

set_option maxHeartbeats 800000 in
theorem b1Size_any (F : Fs) (ex : Nat → Bool) (p : Option Addr) (cap BI off : Nat) (w : World) (b : Bd F) (I : Inp F ex p BI off w) (s L e : Nat) (he : e = s + L) (hen : e ≤ F.n) (hs : s < F.n) :
    Calls Try.prog 18 #[.slice p F.n cap, .int .i64 s, .int .i64 e] w fun e w' => e = .returned (.int .i64 (szTo F s L)) ∧ ∃ q, w' = w.drewN q := by
  obtain rfl := I.adr (by omega)
  have HI : Hid (Inp F ex (some ⟨BI, off, none⟩) BI off w) := I
  have HE : Hid (e = s + L) := he
  have HB : Hid (Bd F) := b
  have hn := b.n
  have hse : s ≤ e := by omega
  clear I he b
  go_enter Try.func18, Try.ntmps18
  go_wp2
  go_loopw [7, 8] (fun x y wr => ∃ (K t : Nat), t ≤ L ∧ Hid (K = s + t) ∧ x = .int .i64 (szTo F s t) ∧ y = .int .i64 K ∧ Hid (∃ q, wr = w.drewN q)) (fun _ y _ => F.n - (intOf y).toNat)
  case atStart => exact ⟨s, 0, by omega, (by show s = s + 0; omega), rfl, rfl, 0, rfl⟩
  case round =>
    obtain ⟨K, t, ht, HK, rfl, rfl, HQ⟩ := hrel
    have I2 : Inp F ex (some ⟨BI, off, none⟩) BI off wr := by obtain ⟨q, rfl⟩ := HQ.out; exact HI.out.keep fun _ _ => rfl
    have HP : Hid (∀ m, ∃ q, wr.drewN m = w.drewN q) := fun m => by obtain ⟨q, rfl⟩ := HQ.out; exact ⟨q + m, drewN_two _ _ _⟩
    by_cases hlt : t < L
    · have hKe : K < e := by have := HK.out; have := HE.out; omega
      have hKn : K < F.n := by omega
      have c1 := I2.add K hKn
      have c2 := I2.del K hKn
      have a1 := HB.out.add K hKn
      have a2 := HB.out.del K hKn
      have a3 := HB.out.one K hKn
      have hst : s + t ≤ F.n ∧ s + (t + 1) ≤ F.n := by have := HK.out; omega
      have b1 := HB.out.nonneg s t hst.1
      have b2 := HB.out.le s t hst.1
      have b3 := HB.out.nonneg s (t + 1) hst.2
      have b4 := HB.out.le s (t + 1) hst.2
      simp only [szTo] at b3 b4
      rw [← HK.out] at b3 b4
      clear I2 HQ hst
      go_wp2
      go_quiet (fail)
      go_wp2
      go_roundw
      case rel => exact ⟨K + 1, t + 1, by omega, (by show K + 1 = s + (t + 1); have := HK.out; omega), by simp only [szTo]; rw [← HK.out], by go_num, HP.out nq⟩
      case measure => simp [intOf]; omega
    · obtain rfl : t = L := by omega
      have hKe : K = e := by have := HK.out; have := HE.out; omega
      subst hKe
      clear I2
      go_wp2
      go_ret
      exact ⟨rfl, HQ.out⟩
end Go.Proofs.Qxb6618735a

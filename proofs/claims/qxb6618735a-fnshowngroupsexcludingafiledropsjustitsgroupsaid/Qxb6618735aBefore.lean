/- seat b6618735a: b1CmpStr, b1Before -/
import Derived.Test.Qxb6618735aReads
namespace Go.Proofs.Qxb6618735a
open Go.RowKit Go.Lib

theorem bytes_drop (a : ByteArray) {i : Nat} (h : i < a.size) : a.data.toList.drop i = a[i] :: a.data.toList.drop (i + 1) := by
  have h' : i < a.data.toList.length := by simpa using h
  rw [List.drop_eq_getElem_cons h']
  rfl
theorem bytes_done (a : ByteArray) {i : Nat} (h : a.size ≤ i) : a.data.toList.drop i = [] := List.drop_eq_nil_of_le (by simpa using h)

theorem cmp_step {a b : ByteArray} {i : Nat} {x y : UInt8} (ha : i < a.size) (hb : i < b.size) (hx : a[i] = x) (hy : b[i] = y) :
    compareBytes (a.data.toList.drop i) (b.data.toList.drop i) = if x < y then -1 else if y < x then 1 else compareBytes (a.data.toList.drop (i + 1)) (b.data.toList.drop (i + 1)) := by
  rw [bytes_drop a ha, bytes_drop b hb, hx, hy]; rfl

set_option maxHeartbeats 1600000 in
theorem cmpStr_any (a b : ByteArray) (w : World) (ha : a.size ≤ 1048576) (hb : b.size ≤ 1048576) :
    Calls Try.prog 19 #[.string a, .string b] w fun e w' => e = .returned (.int .i64 (compareBytes a.data.toList b.data.toList)) ∧ ∃ q, w' = w.drewN q := by
  obtain ⟨C, hC⟩ : ∃ C, C = compareBytes a.data.toList b.data.toList := ⟨_, rfl⟩
  rw [← hC]
  have HC : Hid (C = compareBytes (a.data.toList.drop 0) (b.data.toList.drop 0)) := by show C = _; simpa using hC
  clear hC
  by_cases hlt : b.size < a.size
  all_goals
    obtain ⟨m, hm1, hm2, hm3⟩ : ∃ m : Nat, m ≤ a.size ∧ m ≤ b.size ∧ (m = a.size ∨ m = b.size) := ⟨min a.size b.size, by omega, by omega, by omega⟩
    have HM : Hid (m = a.size ∨ m = b.size) := hm3
    clear hm3
    go_enter Try.func19, Try.ntmps19
    go_wp2
    go_loopw [6] (fun x wr => ∃ i : Nat, i ≤ m ∧ x = .int .i64 i ∧ Hid ((∃ q, wr = w.drewN q) ∧ C = compareBytes (a.data.toList.drop i) (b.data.toList.drop i))) (fun x _ => m - (intOf x).toNat)
    case atStart => exact ⟨0, by omega, rfl, ⟨0, rfl⟩, HC.out⟩
    case round =>
      obtain ⟨i, hi, rfl, HQ⟩ := hrel
      have HP : Hid (∀ m, ∃ q, wr.drewN m = w.drewN q) := fun m => by obtain ⟨⟨q, rfl⟩, _⟩ := HQ.out; exact ⟨q + m, drewN_two _ _ _⟩
      by_cases him : i < m
      · have hia : i < a.size := by omega
        have hib : i < b.size := by omega
        obtain ⟨x, hx⟩ : ∃ x : UInt8, a[i] = x := ⟨_, rfl⟩
        obtain ⟨y, hy⟩ : ∃ y : UInt8, b[i] = y := ⟨_, rfl⟩
        have HS : Hid (C = if x < y then -1 else if y < x then 1 else compareBytes (a.data.toList.drop (i + 1)) (b.data.toList.drop (i + 1))) := HQ.out.2.trans (cmp_step hia hib hx hy)
        by_cases e1 : x = y
        · subst e1
          have HQ' : Hid (C = compareBytes (a.data.toList.drop (i + 1)) (b.data.toList.drop (i + 1))) := by
            have := HS.out
            rwa [if_neg (UInt8.lt_irrefl x), if_neg (UInt8.lt_irrefl x)] at this
          go_wp2
          go_quiet (fail)
          go_wp2
          go_roundw
          case rel => exact ⟨i + 1, by omega, by go_num, HP.out nq, HQ'.out⟩
          case measure => simp [intOf]; omega
        · have hne : x.toNat ≠ y.toNat := fun h => e1 (UInt8.toNat_inj.1 h)
          have hbn : ((x.toNat : Int) != (y.toNat : Int)) = true := by simp; omega
          by_cases e2 : x < y
          · have l1 : x.toNat < y.toNat := UInt8.lt_iff_toNat_lt.1 e2
            have HE : Hid (C = -1) := by have := HS.out; rwa [if_pos e2] at this
            go_wp2
            go_quiet (fail)
            go_wp2
            go_quiet (fail)
            go_wp2
            go_ret
            refine ⟨by rw [HE.out]; rfl, ?_⟩
            first | exact HP.out _ | (rw [drewN_two]; exact HP.out _)
          · have l1 : y.toNat < x.toNat := by have : ¬ x.toNat < y.toNat := fun h => e2 (UInt8.lt_iff_toNat_lt.2 h); omega
            have l2 : decide ((x.toNat : Int) < (y.toNat : Int)) = false := decide_eq_false (by omega)
            have HE : Hid (C = 1) := by have := HS.out; rwa [if_neg e2, if_pos (UInt8.lt_iff_toNat_lt.2 l1)] at this
            go_wp2
            go_quiet (fail)
            go_wp2
            go_quiet (fail)
            go_wp2
            go_ret
            refine ⟨by rw [HE.out]; rfl, ?_⟩
            first | exact HP.out _ | (rw [drewN_two]; exact HP.out _)
      · obtain rfl : i = m := by omega
        have hm := HM.out
        clear HP
        rcases Nat.lt_trichotomy a.size b.size with s1 | s1 | s1
        · first
          | (exfalso; omega)
          | have h1 : i = a.size := by omega
            have HE : Hid (C = -1) := by
              have := HQ.out.2
              rwa [bytes_done a (by omega), bytes_drop b (i := i) (by omega)] at this
            clear hm
            go_wp2
            go_ret
            exact ⟨by rw [HE.out]; rfl, HQ.out.1⟩
        · first
          | (exfalso; omega)
          | have h1 : i = a.size := by omega
            have HE : Hid (C = 0) := by
              have := HQ.out.2
              rwa [bytes_done b (by omega), bytes_done a (by omega)] at this
            clear hm
            go_wp2
            go_ret
            exact ⟨by rw [HE.out]; rfl, HQ.out.1⟩
        · first
          | (exfalso; omega)
          | have h1 : i = b.size := by omega
            have HE : Hid (C = 1) := by
              have := HQ.out.2
              rwa [bytes_done b (by omega), bytes_drop a (i := i) (by omega)] at this
            clear hm
            go_wp2
            go_ret
            exact ⟨by rw [HE.out]; rfl, HQ.out.1⟩

set_option maxHeartbeats 1600000 in
theorem before_any (F : Fs) (ex : Nat → Bool) (p : Option Addr) (cap BI off : Nat) (w : World) (b : Bd F) (I : Inp F ex p BI off w) (ln : Nat → Nat) (s t es et : Nat) (hes : es = s + ln s) (het : et = t + ln t) (he : es ≤ F.n) (he' : et ≤ F.n) (hs : s < F.n) (ht : t < F.n)
    (hp : ∀ i, i < F.n → (F.path i).size ≤ 1048576) (h : Tlt (ltc (cfOf F ln)) s t) :
    Calls Try.prog 12 #[.slice p F.n cap, .int .i64 s, .int .i64 es, .int .i64 t, .int .i64 et] w fun e w' => e = .returned (.bool true) ∧ ∃ q, w' = w.drewN q := by
  have c1 : Hid (∀ w, Inp F ex p BI off w → Calls Try.prog 18 #[.slice p F.n cap, .int .i64 s, .int .i64 es] w fun e w' => e = .returned (.int .i64 (szTo F s (ln s))) ∧ ∃ q, w' = w.drewN q) := fun w I => b1Size_any F ex p cap BI off w b I s (ln s) es hes he hs
  have c2 : Hid (∀ w, Inp F ex p BI off w → Calls Try.prog 18 #[.slice p F.n cap, .int .i64 t, .int .i64 et] w fun e w' => e = .returned (.int .i64 (szTo F t (ln t))) ∧ ∃ q, w' = w.drewN q) := fun w I => b1Size_any F ex p cap BI off w b I t (ln t) et het he' ht
  have c3 : Hid (∀ w, Calls Try.prog 19 #[.string (F.path s), .string (F.path t)] w fun e w' => e = .returned (.int .i64 (compareBytes (F.path s).data.toList (F.path t).data.toList)) ∧ ∃ q, w' = w.drewN q) := fun w => cmpStr_any _ _ w (hp s hs) (hp t ht)
  have b1 := b.nonneg s (ln s) (by omega)
  have b2 := b.le s (ln s) (by omega)
  have b3 := b.nonneg t (ln t) (by omega)
  have b4 := b.le t (ln t) (by omega)
  have hn := b.n
  have sw := cmpB_swap (F.path s).data.toList (F.path t).data.toList
  unfold Tlt at h
  rw [ltc_iff, ltc_iff'] at h
  unfold cfOf at h
  obtain rfl := I.adr (by omega)
  have HI : Hid (Inp F ex (some ⟨BI, off, none⟩) BI off w) := I
  clear I b hp hes het
  generalize szTo F s (ln s) = sa at *
  generalize szTo F t (ln t) = sb at *
  generalize compareBytes (F.path s).data.toList (F.path t).data.toList = cm at *
  generalize compareBytes (F.path t).data.toList (F.path s).data.toList = cm' at *
  by_cases hab : sa = sb
  · have hd : ¬ ((sa != sb) = true) := by simp [hab]
    have h' : cm < 0 ∨ (cm = 0 ∧ s < t) := by
      rw [if_pos (by omega), if_pos (by omega)] at h
      omega
    clear h sw
    subst hab
    have HQ : Hid (∀ w1, (∃ q, w1 = w.drewN q) → (∀ n, Calls Try.prog 19 #[.string (F.path s), .string (F.path t)] (w1.drewN n) fun e w'' => e = .returned (.int .i64 cm) ∧ ∃ m, w'' = w1.drewN m) ∧ (∀ m, ∃ q, w1.drewN m = w.drewN q) ∧ w1.cell? ⟨BI, off + s * 6, none⟩ = some (.string (F.path s)) ∧ w1.cell? ⟨BI, off + t * 6, none⟩ = some (.string (F.path t))) := by
      rintro w1 ⟨q, rfl⟩
      refine ⟨fun n => (c3.out _).mono fun _ _ ⟨h1, q', h2⟩ => ⟨h1, n + q', by rw [h2, drewN_two]⟩, fun m => ⟨q + m, drewN_two _ _ _⟩, HI.out.path s hs, HI.out.path t ht⟩
    by_cases hc0 : cm = 0
    · have hst : s < t := by omega
      subst hc0
      go_enter Try.func12, Try.ntmps12
      go_wp2_with fail
      refine (c1.out w HI.out).mono ?_
      rintro e w1 ⟨rfl, q1, rfl⟩
      go_wp2_with fail
      refine (c2.out _ (HI.out.keep (w' := w.drewN q1) fun _ _ => rfl)).mono ?_
      rintro e w1 ⟨rfl, hq⟩
      obtain ⟨k1, k2, k3, k4⟩ := HQ.out w1 (by obtain ⟨q2, rfl⟩ := hq; exact ⟨q1 + q2, drewN_two _ _ _⟩)
      have K1 := hide k1
      have K2 := hide k2
      clear hq k1 k2
      go_wp2
      go_quiet ((go_at_call 19; exact K1.out _))
      go_wp2
      go_ret
      exact ⟨rfl, K2.out _⟩
    · have hst : cm < 0 := by omega
      go_enter Try.func12, Try.ntmps12
      go_wp2_with fail
      refine (c1.out w HI.out).mono ?_
      rintro e w1 ⟨rfl, q1, rfl⟩
      go_wp2_with fail
      refine (c2.out _ (HI.out.keep (w' := w.drewN q1) fun _ _ => rfl)).mono ?_
      rintro e w1 ⟨rfl, hq⟩
      obtain ⟨k1, k2, k3, k4⟩ := HQ.out w1 (by obtain ⟨q2, rfl⟩ := hq; exact ⟨q1 + q2, drewN_two _ _ _⟩)
      have K1 := hide k1
      have K2 := hide k2
      clear hq k1 k2
      have hcn : (cm != 0) = true := by simp [hc0]
      go_wp2
      go_quiet ((go_at_call 19; exact K1.out _))
      go_wp2
      go_ret
      exact ⟨rfl, K2.out _⟩
  · have hlt : sa < sb := by
      rw [if_neg (by omega), if_neg (by omega)] at h
      omega
    have hd : (sa != sb) = true := by simp [hab]
    clear h sw
    go_enter Try.func12, Try.ntmps12
    go_wp2_with fail
    refine (c1.out w HI.out).mono ?_
    rintro e w1 ⟨rfl, q1, rfl⟩
    go_wp2_with fail
    refine (c2.out _ (HI.out.keep (w' := w.drewN q1) fun _ _ => rfl)).mono ?_
    rintro e w1 ⟨rfl, q2, rfl⟩
    go_wp2
    go_ret
    exact ⟨rfl, _, rfl⟩
end Go.Proofs.Qxb6618735a

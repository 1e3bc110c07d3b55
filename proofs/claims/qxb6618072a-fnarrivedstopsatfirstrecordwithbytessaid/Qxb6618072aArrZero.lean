/- seat b6618072a: the walk of the arrived law where nothing is left at the start -/
import Derived.Test.Qxb6618072aArrWalk
namespace Go.Proofs.Qxb6618072a
open Go.RowKit

set_option maxHeartbeats 6400000 in
set_option maxRecDepth 100000 in
theorem arr_zero (s : ByteArray) (p en fi ki ne va : Int) (ot : Bool) (q : Nat) (vd : Int) (a : Option Addr) (n c : Nat) (zs : List Int) (w : World)
    (hb : s.size + n ≤ 1048576) (hs : s.size ≤ 524288) (hn : n ≤ 524288) (hq : q ≤ 1048576)
    (hz : ∀ j, 0 ≤ zs.getD j 0 ∧ zs.getD j 0 ≤ 255) (hlie : Lies w a n zs) (hnil : a = none → n = 0 ∧ c = 0) :
    Calls Try.prog 6 #[.agg (restCells s p en fi ki ne va ot), .int .i64 q, .int .i64 0, .int .i64 vd, .slice a n c] w fun e w' => e = .returned (.bool true) ∧ Below w.heap.size w w' := by
  have HZ : Hid (∀ j, 0 ≤ zs.getD j 0 ∧ zs.getD j 0 ≤ 255) := hz
  have HLI : Hid (Lies w a n zs) := hlie
  have HNI : Hid (a = none → n = 0 ∧ c = 0) := hnil
  clear hz hlie hnil
  go_enter Try.func6, Try.ntmps6
  go_wp2_with (go_at_call 14; refine (bytes14_ok s p en fi ki ne va ot _ _ _ _ _ _ _ hb).mono ?_; rintro e w' ⟨rfl, rfl⟩)
  refine (clone_any a n c zs _ (by omega) (HLI.out.below (((Below.refl _ _).alloc (Nat.le_refl _) _).alloc (by simp) _)) HNI.out).mono ?_
  rintro e w1 ⟨a1, c1, rfl, g1, G2, G3, B1⟩
  go_wp2_with fail
  refine (clone_any a1 n c1 zs _ (by omega) G2 G3).mono ?_
  rintro e w2 ⟨a2, c2, rfl, g4, G5, G6, B2⟩
  have BW : Below w.heap.size w w2 := ((((Below.refl _ _).alloc (Nat.le_refl _) _).alloc (by simp) _).trans (B1.mono (by simp; omega))).trans (B2.mono (by have := B1.size; simp at this; omega))
  have zw : w.heap.size < w2.heap.size := by have h1 := B1.size; have h2 := B2.size; simp at h1; omega
  have r2 : ∀ o, w2.cell? ⟨w.heap.size, o, none⟩ = (restCells s p en fi ki ne va ot)[o]? := fun o => by
    rw [B2.cell (p := ⟨w.heap.size, o, none⟩) (by have h1 := B1.size; simp at h1; show w.heap.size < _; omega), B1.cell (p := ⟨w.heap.size, o, none⟩) (by show w.heap.size < _; simp; omega)]
    simp
  have HL1 : Hid (Lies w2 a1 n zs) := G2.below B2
  have HL2 : Hid (Lies w2 a2 n zs) := G5
  have HBW : Hid (Below w.heap.size w w2) := BW
  clear G2 G5 B1 B2 G3 G6 BW
  go_wp2_with (go_at_call 17; refine (scan_any s p en fi ki ne va ot _ _ _ _).mono ?_; rintro e w' ⟨rfl, rfl⟩)
  obtain ⟨bf, off, hrow⟩ : ∃ bf off, 0 < n → a2 = some ⟨bf, off, none⟩ ∧ bf < w2.heap.size ∧ ∀ j, j < n → w2.cell? ⟨bf, off + j, none⟩ = some (.int .u8 (zs.getD j 0)) := by
    by_cases h : 0 < n
    · obtain ⟨b, o, h1⟩ := HL2.out h; exact ⟨b, o, fun _ => h1⟩
    · exact ⟨0, 0, fun h' => absurd h' h⟩
  have HR : Hid (0 < n → a2 = some ⟨bf, off, none⟩ ∧ bf < w2.heap.size ∧ ∀ j, j < n → w2.cell? ⟨bf, off + j, none⟩ = some (.int .u8 (zs.getD j 0))) := hrow
  refine (zzarrived_any bf off a2 n c2 zs s q 0 p en fi ki ne va ot vd _ (by omega) g4 hq (by omega) (by omega) (fun h => by omega) HZ.out ?_).mono ?_
  · intro h
    obtain ⟨h1, h2, h3⟩ := hrow h
    exact ⟨h1, by simp; omega, fun j hj => by rw [World.cell?_alloc_past _ _ _ (by simp; omega), World.cell?_alloc_past _ _ _ h2]; exact h3 j hj⟩
  rintro e w3 ⟨t, v2, out, rfl, E1, E2, E3, B3⟩
  have z3 : w2.heap.size < w3.heap.size := by have h1 := B3.size; simp at h1; omega
  have r3 : ∀ o, w3.cell? ⟨w.heap.size, o, none⟩ = (restCells s p en fi ki ne va ot)[o]? := fun o => by
    rw [B3.cell (p := ⟨w.heap.size, o, none⟩) (by show w.heap.size < _; simp; omega), World.cell?_alloc_past _ _ _ (by simp; omega), World.cell?_alloc_past _ _ _ zw, r2]
  have HB3 : Hid (Below w2.heap.size w2 w3) := (((Below.refl _ _).alloc (Nat.le_refl _) _).alloc (by simp) _).trans (B3.mono (by simp; omega))
  clear B3 r2 hrow
  have zw3 : w.heap.size < w3.heap.size := by omega
  have HE : Hid (chain zs n q t ∧ (0 < t → (0 : Int) = 0)) := ⟨E1, E2⟩
  have hlb := lft_bounds HZ.out (l0 := 0) (by omega) (by omega) q t
  have hn2 : q + 5 * t ≤ 1048576 := by
    by_cases e : t = 0
    · omega
    · have := (E1 (t - 1) (by omega)).1; omega
  have hq2 : q ≤ q + 5 * t := by omega
  have ht0 : t = 0 → lft zs 0 q t = 0 := fun h => by simp [lft, h]
  generalize hQ : q + 5 * t = n2 at *
  generalize hL : lft zs 0 q t = lv at *
  have HQ : Hid (q + 5 * t = n2) := hQ
  have HL : Hid (lft zs 0 q t = lv) := hL
  obtain ⟨lv0, lv1⟩ := hlb
  have HL1' : Hid (Lies w3 a1 n zs) := HL1.out.below HB3.out
  have HBW' : Hid (Below w.heap.size w w3) := HBW.out.trans (HB3.out.mono (by omega))
  clear E1 E2 hQ hL HL1 HBW HL2
  have dq : decide (n2 < q) = false := decide_eq_false (by omega)
  have dq' : decide ((n2 : Int) < (q : Int)) = false := decide_eq_false (by omega)
  obtain ⟨e1, rfl, e2⟩ | ⟨e1, e2, rfl, a3, c3, rfl, e4⟩ := E3
  · have HLO : Hid (0 < lv → Lies w3 (none : Option Addr) 0 (zs.drop n2)) := fun h => absurd h (by omega)
    have tl0 : (lv == 0) = true := by simpa using e1
    have lvz : lv ≤ 0 := by omega
    clear e1
    rcases e2 with ⟨e2, rfl⟩ | ⟨e2, e3, rfl⟩
    · skip
      by_cases ht : t = 0
      · have e1 : n2 = q := by have := HQ.out; omega
        have tn : ((n2 : Int) == (q : Int)) = true := by simp; omega
        have tz : (lv != 0) = false := by have := ht0 ht; simp; omega
        have n2q : n2 ≤ q := by omega
        have HT0 : Hid (t = 0) := ht
        clear e1 ht ht0
        go_wp2_with (go_at_call 18; refine (kept_any s p en fi ki ne va ot _ _ _ _).mono ?_; rintro e w' ⟨rfl, rfl⟩)
        go_loopw [17] (fun x wr => ∃ i : Nat, i ≤ t ∧ x = .int .i64 ((q + 5 * i : Nat) : Int) ∧ Hid (Lies wr a1 n zs) ∧ Hid (0 < lv → Lies wr none 0 (zs.drop n2)) ∧ Hid (Below w.heap.size w wr)) (fun x _ => n2 - (intOf x).toNat)
        case atStart => exact ⟨0, by omega, by simp, HL1'.out.below ((((Below.refl _ _).alloc (Nat.le_refl _) _).alloc (by simp) _).alloc (by simp; omega) _), fun h => (HLO.out h).below ((((Below.refl _ _).alloc (Nat.le_refl _) _).alloc (by simp) _).alloc (by simp; omega) _), HBW'.out.trans (((((Below.refl _ _).alloc (Nat.le_refl _) _).alloc (by simp) _).alloc (by simp; omega) _).mono (by omega))⟩
        case round =>
          obtain ⟨i, hi, rfl, J1, J2, J3⟩ := hrel
          by_cases hit : i < t
          · exact absurd hit (by have := HT0.out; omega)
          · have xn : q + 5 * i = n2 := by rw [show i = t by omega]; exact HQ.out
            rw [xn]
            clear xn hit hi
            go_wp2
            go_ret
            exact ⟨rfl, J3.out⟩
      · have tn : ((n2 : Int) == (q : Int)) = false := by have := HQ.out; simp; omega
        clear ht ht0
        go_wp2_with (go_at_call 18; refine (kept_any s p en fi ki ne va ot _ _ _ _).mono ?_; rintro e w' ⟨rfl, rfl⟩)
        go_loopw [17] (fun x wr => ∃ i : Nat, i ≤ t ∧ x = .int .i64 ((q + 5 * i : Nat) : Int) ∧ Hid (Lies wr a1 n zs) ∧ Hid (0 < lv → Lies wr none 0 (zs.drop n2)) ∧ Hid (Below w.heap.size w wr)) (fun x _ => n2 - (intOf x).toNat)
        case atStart => exact ⟨0, by omega, by simp, HL1'.out.below ((((Below.refl _ _).alloc (Nat.le_refl _) _).alloc (by simp) _).alloc (by simp; omega) _), fun h => (HLO.out h).below ((((Below.refl _ _).alloc (Nat.le_refl _) _).alloc (by simp) _).alloc (by simp; omega) _), HBW'.out.trans (((((Below.refl _ _).alloc (Nat.le_refl _) _).alloc (by simp) _).alloc (by simp; omega) _).mono (by omega))⟩
        case round =>
          obtain ⟨i, hi, rfl, J1, J2, J3⟩ := hrel
          by_cases hit : i < t
          · have HI : Hid (i < t) := hit
            obtain ⟨d1, d2, d3⟩ := HE.out.1 i hit
            have e5 : q + 5 * (i + 1) = q + 5 * i + 5 := by omega
            have HX : Hid (q + 5 * (i + 1) = q + 5 * i + 5) := e5
            have hub : q + 5 * i + 5 ≤ n2 := by have := HQ.out; omega
            have HD : Hid (hdr zs (q + 5 * i) = zs.getD (q + 5 * i + 3) 0 * 256 + zs.getD (q + 5 * i + 4) 0) := rfl
            have HLN : Hid (i + 1 = t → hdr zs (q + 5 * i) = lv) := fun h => by
              have := HL.out; subst h; rw [lft_next] at this; exact this
            have HL0 : Hid (i + 1 < t → hdr zs (q + 5 * i) = 0) := d3
            have HNT : Hid (q + 5 * i + 5 = n2 ↔ i + 1 = t) := by have := HQ.out; constructor <;> intro h <;> omega
            obtain ⟨b1, o1, rfl, _, k1⟩ := J1.out (by omega)
            have y3 := HZ.out (q + 5 * i + 3)
            have y4 := HZ.out (q + 5 * i + 4)
            have hc0 := k1 (q + 5 * i) (by omega)
            have hc3 := k1 (q + 5 * i + 3) (by omega)
            have hc4 := k1 (q + 5 * i + 4) (by omega)
            rw [d2] at hc0
            generalize hx : q + 5 * i = x at *
            have HXX : Hid (q + 5 * i = x) := hx
            clear hx e5 d2 d3 k1
            generalize zs.getD (x + 3) 0 = u3 at *
            generalize zs.getD (x + 4) 0 = u4 at *
            obtain ⟨u3l, u3u⟩ := y3
            obtain ⟨u4l, u4u⟩ := y4
            have hor := or_bytes u3 u4 u3l u3u u4l u4u
            by_cases hl : i + 1 < t
            · have q1 : x + 5 < n2 := by have h1 := HNT.out; by_cases e : x + 5 = n2; · have := h1.1 e; omega
                                         · omega
              have te : ((x : Int) + 5 == (n2 : Int)) = false := by simp; omega
              have t0 : (u3 * 256 + u4 != 0) = false := by have h1 := HL0.out hl; have h2 := HD.out; simp; omega
              clear hit hl
              go_wp2
              go_region
              all_goals go_wp2
              go_roundw
              case rel => exact ⟨i + 1, HI.out, by have hX := HX.out; first | omega | (congr 1; omega), J1.out.below ((Below.refl _ _).drew), fun h => (J2.out h).below ((Below.refl _ _).drew), J3.out.drew⟩
              case measure => simp [intOf]; omega
            · have q1 : x + 5 = n2 := HNT.out.2 (by omega)
              have tl : (u3 * 256 + u4 != lv) = false := by have h1 := HLN.out (by omega); have h2 := HD.out; simp; omega
              have q2 : (n2 : Int) ≤ (x : Int) + 5 := by omega
              have te : ((x : Int) + 5 == (n2 : Int)) = true := by simp; omega
              clear q1 hit hl
              go_wp2
              go_region
              all_goals go_wp2
              go_roundw
              case rel => exact ⟨i + 1, HI.out, by have hX := HX.out; first | omega | (congr 1; omega), J1.out.below ((Below.refl _ _).drew), fun h => (J2.out h).below ((Below.refl _ _).drew), J3.out.drew⟩
              case measure => simp [intOf]; omega
          · have xn : q + 5 * i = n2 := by rw [show i = t by omega]; exact HQ.out
            rw [xn]
            clear xn hit hi
            go_wp2
            go_ret
            exact ⟨rfl, J3.out⟩
    · have HY : Hid (zs.getD n2 0 ≠ 22) := e3
      clear e3
      by_cases ht : t = 0
      · have e1 : n2 = q := by have := HQ.out; omega
        have tn : ((n2 : Int) == (q : Int)) = true := by simp; omega
        have tz : (lv != 0) = false := by have := ht0 ht; simp; omega
        have n2q : n2 ≤ q := by omega
        have HT0 : Hid (t = 0) := ht
        clear e1 ht ht0
        go_wp2_with (go_at_call 18; refine (kept_any s p en fi ki ne va ot _ _ _ _).mono ?_; rintro e w' ⟨rfl, rfl⟩)
        go_loopw [17] (fun x wr => ∃ i : Nat, i ≤ t ∧ x = .int .i64 ((q + 5 * i : Nat) : Int) ∧ Hid (Lies wr a1 n zs) ∧ Hid (0 < lv → Lies wr none 0 (zs.drop n2)) ∧ Hid (Below w.heap.size w wr)) (fun x _ => n2 - (intOf x).toNat)
        case atStart => exact ⟨0, by omega, by simp, HL1'.out.below ((((Below.refl _ _).alloc (Nat.le_refl _) _).alloc (by simp) _).alloc (by simp; omega) _), fun h => (HLO.out h).below ((((Below.refl _ _).alloc (Nat.le_refl _) _).alloc (by simp) _).alloc (by simp; omega) _), HBW'.out.trans (((((Below.refl _ _).alloc (Nat.le_refl _) _).alloc (by simp) _).alloc (by simp; omega) _).mono (by omega))⟩
        case round =>
          obtain ⟨i, hi, rfl, J1, J2, J3⟩ := hrel
          by_cases hit : i < t
          · exact absurd hit (by have := HT0.out; omega)
          · have xn : q + 5 * i = n2 := by rw [show i = t by omega]; exact HQ.out
            rw [xn]
            clear xn hit hi
            obtain ⟨b1, o1, rfl, _, k1⟩ := J1.out (by omega)
            have c1 := k1 n2 (by omega)
            generalize zs.getD n2 0 = y at *
            have ty : (y != 22) = true := by simpa using HY.out
            clear k1
            go_wp2
            go_ret
            exact ⟨rfl, J3.out⟩
      · have tn : ((n2 : Int) == (q : Int)) = false := by have := HQ.out; simp; omega
        clear ht ht0
        go_wp2_with (go_at_call 18; refine (kept_any s p en fi ki ne va ot _ _ _ _).mono ?_; rintro e w' ⟨rfl, rfl⟩)
        go_loopw [17] (fun x wr => ∃ i : Nat, i ≤ t ∧ x = .int .i64 ((q + 5 * i : Nat) : Int) ∧ Hid (Lies wr a1 n zs) ∧ Hid (0 < lv → Lies wr none 0 (zs.drop n2)) ∧ Hid (Below w.heap.size w wr)) (fun x _ => n2 - (intOf x).toNat)
        case atStart => exact ⟨0, by omega, by simp, HL1'.out.below ((((Below.refl _ _).alloc (Nat.le_refl _) _).alloc (by simp) _).alloc (by simp; omega) _), fun h => (HLO.out h).below ((((Below.refl _ _).alloc (Nat.le_refl _) _).alloc (by simp) _).alloc (by simp; omega) _), HBW'.out.trans (((((Below.refl _ _).alloc (Nat.le_refl _) _).alloc (by simp) _).alloc (by simp; omega) _).mono (by omega))⟩
        case round =>
          obtain ⟨i, hi, rfl, J1, J2, J3⟩ := hrel
          by_cases hit : i < t
          · have HI : Hid (i < t) := hit
            obtain ⟨d1, d2, d3⟩ := HE.out.1 i hit
            have e5 : q + 5 * (i + 1) = q + 5 * i + 5 := by omega
            have HX : Hid (q + 5 * (i + 1) = q + 5 * i + 5) := e5
            have hub : q + 5 * i + 5 ≤ n2 := by have := HQ.out; omega
            have HD : Hid (hdr zs (q + 5 * i) = zs.getD (q + 5 * i + 3) 0 * 256 + zs.getD (q + 5 * i + 4) 0) := rfl
            have HLN : Hid (i + 1 = t → hdr zs (q + 5 * i) = lv) := fun h => by
              have := HL.out; subst h; rw [lft_next] at this; exact this
            have HL0 : Hid (i + 1 < t → hdr zs (q + 5 * i) = 0) := d3
            have HNT : Hid (q + 5 * i + 5 = n2 ↔ i + 1 = t) := by have := HQ.out; constructor <;> intro h <;> omega
            obtain ⟨b1, o1, rfl, _, k1⟩ := J1.out (by omega)
            have y3 := HZ.out (q + 5 * i + 3)
            have y4 := HZ.out (q + 5 * i + 4)
            have hc0 := k1 (q + 5 * i) (by omega)
            have hc3 := k1 (q + 5 * i + 3) (by omega)
            have hc4 := k1 (q + 5 * i + 4) (by omega)
            rw [d2] at hc0
            generalize hx : q + 5 * i = x at *
            have HXX : Hid (q + 5 * i = x) := hx
            clear hx e5 d2 d3 k1
            generalize zs.getD (x + 3) 0 = u3 at *
            generalize zs.getD (x + 4) 0 = u4 at *
            obtain ⟨u3l, u3u⟩ := y3
            obtain ⟨u4l, u4u⟩ := y4
            have hor := or_bytes u3 u4 u3l u3u u4l u4u
            by_cases hl : i + 1 < t
            · have q1 : x + 5 < n2 := by have h1 := HNT.out; by_cases e : x + 5 = n2; · have := h1.1 e; omega
                                         · omega
              have te : ((x : Int) + 5 == (n2 : Int)) = false := by simp; omega
              have t0 : (u3 * 256 + u4 != 0) = false := by have h1 := HL0.out hl; have h2 := HD.out; simp; omega
              clear hit hl
              go_wp2
              go_region
              all_goals go_wp2
              go_roundw
              case rel => exact ⟨i + 1, HI.out, by have hX := HX.out; first | omega | (congr 1; omega), J1.out.below ((Below.refl _ _).drew), fun h => (J2.out h).below ((Below.refl _ _).drew), J3.out.drew⟩
              case measure => simp [intOf]; omega
            · have q1 : x + 5 = n2 := HNT.out.2 (by omega)
              have tl : (u3 * 256 + u4 != lv) = false := by have h1 := HLN.out (by omega); have h2 := HD.out; simp; omega
              have q2 : (n2 : Int) ≤ (x : Int) + 5 := by omega
              have te : ((x : Int) + 5 == (n2 : Int)) = true := by simp; omega
              clear q1 hit hl
              go_wp2
              go_region
              all_goals go_wp2
              go_roundw
              case rel => exact ⟨i + 1, HI.out, by have hX := HX.out; first | omega | (congr 1; omega), J1.out.below ((Below.refl _ _).drew), fun h => (J2.out h).below ((Below.refl _ _).drew), J3.out.drew⟩
              case measure => simp [intOf]; omega
          · have xn : q + 5 * i = n2 := by rw [show i = t by omega]; exact HQ.out
            rw [xn]
            clear xn hit hi
            obtain ⟨b1, o1, rfl, _, k1⟩ := J1.out (by omega)
            have c1 := k1 n2 (by omega)
            generalize zs.getD n2 0 = y at *
            have ty : (y != 22) = true := by simpa using HY.out
            clear k1
            go_wp2
            go_ret
            exact ⟨rfl, J3.out⟩
  · have HO : Hid (0 < (min lv ((n : Int) - (n2 : Int))).toNat → a3 = some ⟨bf, off + n2, none⟩) := e4
    obtain ⟨m, hm⟩ : ∃ m : Nat, (min lv ((n : Int) - (n2 : Int))).toNat = m := ⟨_, rfl⟩
    rw [hm] at HO ⊢
    have HM : Hid ((min lv ((n : Int) - (n2 : Int))).toNat = m) := hm
    have hmn : n2 + m ≤ n := by omega
    have HLO : Hid (0 < lv → Lies w3 a3 m (zs.drop n2)) := fun _ => lies_out HR.out HO.out hmn HB3.out
    have tl0 : (lv == 0) = false := by simpa using e1
    have lvp : 0 < lv := by omega
    clear HR HO HB3 hm e4 e1
    by_cases hlt : lv < (n : Int) - (n2 : Int)
    · have m1 : lv ≤ (m : Int) := by have := HM.out; omega
      have m2 : (m : Int) ≤ lv := by have := HM.out; omega
      have tm : ((m : Int) != lv) = false := by simp; omega
      have htp : 0 < t := by
        by_cases e : t = 0
        · have := ht0 e; omega
        · omega
      have tn : ((n2 : Int) == (q : Int)) = false := by have := HQ.out; simp; omega
      clear htp ht0
      go_wp2_with (go_at_call 18; refine (kept_any s p en fi ki ne va ot _ _ _ _).mono ?_; rintro e w' ⟨rfl, rfl⟩)
      go_loopw [17] (fun x wr => ∃ i : Nat, i ≤ t ∧ x = .int .i64 ((q + 5 * i : Nat) : Int) ∧ Hid (Lies wr a1 n zs) ∧ Hid (0 < lv → Lies wr a3 m (zs.drop n2)) ∧ Hid (Below w.heap.size w wr)) (fun x _ => n2 - (intOf x).toNat)
      case atStart => exact ⟨0, by omega, by simp, HL1'.out.below ((((Below.refl _ _).alloc (Nat.le_refl _) _).alloc (by simp) _).alloc (by simp; omega) _), fun h => (HLO.out h).below ((((Below.refl _ _).alloc (Nat.le_refl _) _).alloc (by simp) _).alloc (by simp; omega) _), HBW'.out.trans (((((Below.refl _ _).alloc (Nat.le_refl _) _).alloc (by simp) _).alloc (by simp; omega) _).mono (by omega))⟩
      case round =>
        obtain ⟨i, hi, rfl, J1, J2, J3⟩ := hrel
        by_cases hit : i < t
        · have HI : Hid (i < t) := hit
          obtain ⟨d1, d2, d3⟩ := HE.out.1 i hit
          have e5 : q + 5 * (i + 1) = q + 5 * i + 5 := by omega
          have HX : Hid (q + 5 * (i + 1) = q + 5 * i + 5) := e5
          have hub : q + 5 * i + 5 ≤ n2 := by have := HQ.out; omega
          have HD : Hid (hdr zs (q + 5 * i) = zs.getD (q + 5 * i + 3) 0 * 256 + zs.getD (q + 5 * i + 4) 0) := rfl
          have HLN : Hid (i + 1 = t → hdr zs (q + 5 * i) = lv) := fun h => by
            have := HL.out; subst h; rw [lft_next] at this; exact this
          have HL0 : Hid (i + 1 < t → hdr zs (q + 5 * i) = 0) := d3
          have HNT : Hid (q + 5 * i + 5 = n2 ↔ i + 1 = t) := by have := HQ.out; constructor <;> intro h <;> omega
          obtain ⟨b1, o1, rfl, _, k1⟩ := J1.out (by omega)
          have y3 := HZ.out (q + 5 * i + 3)
          have y4 := HZ.out (q + 5 * i + 4)
          have hc0 := k1 (q + 5 * i) (by omega)
          have hc3 := k1 (q + 5 * i + 3) (by omega)
          have hc4 := k1 (q + 5 * i + 4) (by omega)
          rw [d2] at hc0
          generalize hx : q + 5 * i = x at *
          have HXX : Hid (q + 5 * i = x) := hx
          clear hx e5 d2 d3 k1
          generalize zs.getD (x + 3) 0 = u3 at *
          generalize zs.getD (x + 4) 0 = u4 at *
          obtain ⟨u3l, u3u⟩ := y3
          obtain ⟨u4l, u4u⟩ := y4
          have hor := or_bytes u3 u4 u3l u3u u4l u4u
          by_cases hl : i + 1 < t
          · have q1 : x + 5 < n2 := by have h1 := HNT.out; by_cases e : x + 5 = n2; · have := h1.1 e; omega
                                       · omega
            have te : ((x : Int) + 5 == (n2 : Int)) = false := by simp; omega
            have t0 : (u3 * 256 + u4 != 0) = false := by have h1 := HL0.out hl; have h2 := HD.out; simp; omega
            clear hit hl
            go_wp2
            go_region
            all_goals go_wp2
            go_roundw
            case rel => exact ⟨i + 1, HI.out, by have hX := HX.out; first | omega | (congr 1; omega), J1.out.below ((Below.refl _ _).drew), fun h => (J2.out h).below ((Below.refl _ _).drew), J3.out.drew⟩
            case measure => simp [intOf]; omega
          · have q1 : x + 5 = n2 := HNT.out.2 (by omega)
            have tl : (u3 * 256 + u4 != lv) = false := by have h1 := HLN.out (by omega); have h2 := HD.out; simp; omega
            have q2 : (n2 : Int) ≤ (x : Int) + 5 := by omega
            have te : ((x : Int) + 5 == (n2 : Int)) = true := by simp; omega
            clear q1 hit hl
            go_wp2
            go_region
            all_goals go_wp2
            go_roundw
            case rel => exact ⟨i + 1, HI.out, by have hX := HX.out; first | omega | (congr 1; omega), J1.out.below ((Below.refl _ _).drew), fun h => (J2.out h).below ((Below.refl _ _).drew), J3.out.drew⟩
            case measure => simp [intOf]; omega
        · have xn : q + 5 * i = n2 := by rw [show i = t by omega]; exact HQ.out
          rw [xn]
          clear xn hit hi
          go_wp2
          go_loopw [20] (fun i wr => ∃ k : Nat, k ≤ m ∧ i = .int .i64 k ∧ Hid (Lies wr a1 n zs) ∧ Hid (Lies wr a3 m (zs.drop n2)) ∧ Hid (Below w.heap.size w wr)) (fun i _ => m - (intOf i).toNat)
          case atStart => exact ⟨0, by omega, rfl, J1.out, J2.out (by omega), J3.out⟩
          case round =>
            obtain ⟨k, hk, rfl, J1, J2, J3⟩ := hrel
            by_cases hkm : k < m
            · obtain ⟨b1, o1, rfl, _, k1⟩ := J1.out (by omega)
              obtain ⟨b3, o3, rfl, _, k3⟩ := J2.out (by omega)
              have c1 := k1 (n2 + k) (by omega)
              have c3 := k3 k hkm
              rw [drop_getD] at c3
              generalize zs.getD (n2 + k) 0 = y at c1 c3
              clear k1 k3
              go_wp2
              go_region
              all_goals go_wp2
              go_roundw
              case rel => exact ⟨k + 1, by omega, by go_num, J1.out.below ((Below.refl _ _).drew), J2.out.below ((Below.refl _ _).drew), J3.out.drew⟩
              case measure => simp [intOf]; omega
            · go_wp2
              go_ret
              exact ⟨rfl, J3.out⟩
    · have m1 : (n : Int) - (n2 : Int) ≤ (m : Int) := by have := HM.out; omega
      have m2 : (m : Int) ≤ (n : Int) - (n2 : Int) := by have := HM.out; omega
      have tm : ((m : Int) != (n : Int) - (n2 : Int)) = false := by simp; omega
      have htp : 0 < t := by
        by_cases e : t = 0
        · have := ht0 e; omega
        · omega
      have tn : ((n2 : Int) == (q : Int)) = false := by have := HQ.out; simp; omega
      clear htp ht0
      go_wp2_with (go_at_call 18; refine (kept_any s p en fi ki ne va ot _ _ _ _).mono ?_; rintro e w' ⟨rfl, rfl⟩)
      go_loopw [17] (fun x wr => ∃ i : Nat, i ≤ t ∧ x = .int .i64 ((q + 5 * i : Nat) : Int) ∧ Hid (Lies wr a1 n zs) ∧ Hid (0 < lv → Lies wr a3 m (zs.drop n2)) ∧ Hid (Below w.heap.size w wr)) (fun x _ => n2 - (intOf x).toNat)
      case atStart => exact ⟨0, by omega, by simp, HL1'.out.below ((((Below.refl _ _).alloc (Nat.le_refl _) _).alloc (by simp) _).alloc (by simp; omega) _), fun h => (HLO.out h).below ((((Below.refl _ _).alloc (Nat.le_refl _) _).alloc (by simp) _).alloc (by simp; omega) _), HBW'.out.trans (((((Below.refl _ _).alloc (Nat.le_refl _) _).alloc (by simp) _).alloc (by simp; omega) _).mono (by omega))⟩
      case round =>
        obtain ⟨i, hi, rfl, J1, J2, J3⟩ := hrel
        by_cases hit : i < t
        · have HI : Hid (i < t) := hit
          obtain ⟨d1, d2, d3⟩ := HE.out.1 i hit
          have e5 : q + 5 * (i + 1) = q + 5 * i + 5 := by omega
          have HX : Hid (q + 5 * (i + 1) = q + 5 * i + 5) := e5
          have hub : q + 5 * i + 5 ≤ n2 := by have := HQ.out; omega
          have HD : Hid (hdr zs (q + 5 * i) = zs.getD (q + 5 * i + 3) 0 * 256 + zs.getD (q + 5 * i + 4) 0) := rfl
          have HLN : Hid (i + 1 = t → hdr zs (q + 5 * i) = lv) := fun h => by
            have := HL.out; subst h; rw [lft_next] at this; exact this
          have HL0 : Hid (i + 1 < t → hdr zs (q + 5 * i) = 0) := d3
          have HNT : Hid (q + 5 * i + 5 = n2 ↔ i + 1 = t) := by have := HQ.out; constructor <;> intro h <;> omega
          obtain ⟨b1, o1, rfl, _, k1⟩ := J1.out (by omega)
          have y3 := HZ.out (q + 5 * i + 3)
          have y4 := HZ.out (q + 5 * i + 4)
          have hc0 := k1 (q + 5 * i) (by omega)
          have hc3 := k1 (q + 5 * i + 3) (by omega)
          have hc4 := k1 (q + 5 * i + 4) (by omega)
          rw [d2] at hc0
          generalize hx : q + 5 * i = x at *
          have HXX : Hid (q + 5 * i = x) := hx
          clear hx e5 d2 d3 k1
          generalize zs.getD (x + 3) 0 = u3 at *
          generalize zs.getD (x + 4) 0 = u4 at *
          obtain ⟨u3l, u3u⟩ := y3
          obtain ⟨u4l, u4u⟩ := y4
          have hor := or_bytes u3 u4 u3l u3u u4l u4u
          by_cases hl : i + 1 < t
          · have q1 : x + 5 < n2 := by have h1 := HNT.out; by_cases e : x + 5 = n2; · have := h1.1 e; omega
                                       · omega
            have te : ((x : Int) + 5 == (n2 : Int)) = false := by simp; omega
            have t0 : (u3 * 256 + u4 != 0) = false := by have h1 := HL0.out hl; have h2 := HD.out; simp; omega
            clear hit hl
            go_wp2
            go_region
            all_goals go_wp2
            go_roundw
            case rel => exact ⟨i + 1, HI.out, by have hX := HX.out; first | omega | (congr 1; omega), J1.out.below ((Below.refl _ _).drew), fun h => (J2.out h).below ((Below.refl _ _).drew), J3.out.drew⟩
            case measure => simp [intOf]; omega
          · have q1 : x + 5 = n2 := HNT.out.2 (by omega)
            have tl : (u3 * 256 + u4 != lv) = false := by have h1 := HLN.out (by omega); have h2 := HD.out; simp; omega
            have q2 : (n2 : Int) ≤ (x : Int) + 5 := by omega
            have te : ((x : Int) + 5 == (n2 : Int)) = true := by simp; omega
            clear q1 hit hl
            go_wp2
            go_region
            all_goals go_wp2
            go_roundw
            case rel => exact ⟨i + 1, HI.out, by have hX := HX.out; first | omega | (congr 1; omega), J1.out.below ((Below.refl _ _).drew), fun h => (J2.out h).below ((Below.refl _ _).drew), J3.out.drew⟩
            case measure => simp [intOf]; omega
        · have xn : q + 5 * i = n2 := by rw [show i = t by omega]; exact HQ.out
          rw [xn]
          clear xn hit hi
          go_wp2
          go_loopw [20] (fun i wr => ∃ k : Nat, k ≤ m ∧ i = .int .i64 k ∧ Hid (Lies wr a1 n zs) ∧ Hid (Lies wr a3 m (zs.drop n2)) ∧ Hid (Below w.heap.size w wr)) (fun i _ => m - (intOf i).toNat)
          case atStart => exact ⟨0, by omega, rfl, J1.out, J2.out (by omega), J3.out⟩
          case round =>
            obtain ⟨k, hk, rfl, J1, J2, J3⟩ := hrel
            by_cases hkm : k < m
            · obtain ⟨b1, o1, rfl, _, k1⟩ := J1.out (by omega)
              obtain ⟨b3, o3, rfl, _, k3⟩ := J2.out (by omega)
              have c1 := k1 (n2 + k) (by omega)
              have c3 := k3 k hkm
              rw [drop_getD] at c3
              generalize zs.getD (n2 + k) 0 = y at c1 c3
              clear k1 k3
              go_wp2
              go_region
              all_goals go_wp2
              go_roundw
              case rel => exact ⟨k + 1, by omega, by go_num, J1.out.below ((Below.refl _ _).drew), J2.out.below ((Below.refl _ _).drew), J3.out.drew⟩
              case measure => simp [intOf]; omega
            · go_wp2
              go_ret
              exact ⟨rfl, J3.out⟩
end Go.Proofs.Qxb6618072a

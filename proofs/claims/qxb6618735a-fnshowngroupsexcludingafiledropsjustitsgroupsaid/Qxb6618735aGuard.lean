/- seat b6618735a: the bounds: zzBytes (both), b1FilesRefused -/
import Derived.Test.Qxb6618735aBefore
namespace Go.Proofs.Qxb6618735a
open Go.RowKit

def anyBool (w : World) (e : Ending) (w' : World) : Prop := ∃ z : Bool, e = .returned (.bool z) ∧ w' = w

set_option maxHeartbeats 1600000 in
theorem zz5_any (F : Fs) (ex : Nat → Bool) (p : Option Addr) (cap BI off : Nat) (w : World) (I : Inp F ex p BI off w) :
    Calls Try.prog 5 #[.slice p F.n cap] w fun e w' => anyBool w e w' := by
  have HI : Hid (Inp F ex p BI off w) := I
  clear I
  by_cases hn : 1048576 < F.n
  · go_enter Try.func5, Try.ntmps5
    go_wp2
    go_ret
    exact ⟨_, rfl, rfl⟩
  · go_enter Try.func5, Try.ntmps5
    go_wp2
    go_loopw [3, 4] (fun x y wr => ∃ T i : Nat, T ≤ 1048576 ∧ i ≤ F.n ∧ x = .int .i64 T ∧ y = .int .i64 i ∧ wr = w) (fun _ y _ => F.n - (intOf y).toNat)
    case atStart => exact ⟨F.n, 0, by omega, by omega, by go_num, rfl, rfl⟩
    case round =>
      obtain ⟨T, i, hT, hi, rfl, rfl, hw⟩ := hrel
      obtain rfl := hw.symm
      by_cases hlt : i < F.n
      · obtain rfl := HI.out.adr (by omega)
        have c0 := HI.out.path i hlt
        have c1 := HI.out.treat i hlt
        generalize F.path i = a at c0
        generalize F.treat i = t at c1
        by_cases g1 : 1048576 < a.size
        · go_wp2
          go_ret
          exact ⟨_, rfl, rfl⟩
        by_cases g2 : 1048576 < T + a.size
        · go_wp2
          go_ret
          exact ⟨_, rfl, rfl⟩
        by_cases g3 : 1048576 < t.size
        · go_wp2
          go_ret
          exact ⟨_, rfl, rfl⟩
        by_cases g4 : 1048576 < T + a.size + t.size
        · go_wp2
          go_ret
          exact ⟨_, rfl, rfl⟩
        go_wp2
        go_roundw
        case rel => exact ⟨T + a.size + t.size, i + 1, by omega, by omega, by go_num, by go_num, trivial⟩
        case measure => simp [intOf]; omega
      · go_wp2
        go_ret
        exact ⟨_, rfl, rfl⟩

set_option maxHeartbeats 1600000 in
theorem zz13_any (F : Fs) (ex : Nat → Bool) (p : Option Addr) (cap BI off : Nat) (w : World) (I : Inp F ex p BI off w) (j : Int) :
    Calls Try.prog 13 #[.slice p F.n cap, .int .i64 j] w fun e w' => anyBool w e w' := by
  have HI : Hid (Inp F ex p BI off w) := I
  clear I
  by_cases hn : 1048576 < F.n
  · go_enter Try.func13, Try.ntmps13
    go_wp2
    go_ret
    exact ⟨_, rfl, rfl⟩
  · go_enter Try.func13, Try.ntmps13
    go_wp2
    go_loopw [5, 6] (fun x y wr => ∃ T i : Nat, T ≤ 1048576 ∧ i ≤ F.n ∧ x = .int .i64 T ∧ y = .int .i64 i ∧ wr = w) (fun _ y _ => F.n - (intOf y).toNat)
    case atStart => exact ⟨F.n, 0, by omega, by omega, by go_num, rfl, rfl⟩
    case round =>
      obtain ⟨T, i, hT, hi, rfl, rfl, hw⟩ := hrel
      obtain rfl := hw.symm
      by_cases hlt : i < F.n
      · obtain rfl := HI.out.adr (by omega)
        have c0 := HI.out.path i hlt
        have c1 := HI.out.treat i hlt
        generalize F.path i = a at c0
        generalize F.treat i = t at c1
        by_cases g1 : 1048576 < a.size
        · go_wp2
          go_ret
          exact ⟨_, rfl, rfl⟩
        by_cases g2 : 1048576 < T + a.size
        · go_wp2
          go_ret
          exact ⟨_, rfl, rfl⟩
        by_cases g3 : 1048576 < t.size
        · go_wp2
          go_ret
          exact ⟨_, rfl, rfl⟩
        by_cases g4 : 1048576 < T + a.size + t.size
        · go_wp2
          go_ret
          exact ⟨_, rfl, rfl⟩
        go_wp2
        go_roundw
        case rel => exact ⟨T + a.size + t.size, i + 1, by omega, by omega, by go_num, by go_num, trivial⟩
        case measure => simp [intOf]; omega
      · go_wp2
        go_ret
        exact ⟨_, rfl, rfl⟩

def refPost (F : Fs) (w : World) (e : Ending) (w' : World) : Prop := ∃ z : Bool, e = .returned (.bool z) ∧ w' = w ∧ (z = false → Bd F ∧ ∀ i, i < F.n → (F.path i).size ≤ 1048576)

set_option maxHeartbeats 3200000 in
theorem refused_any (F : Fs) (ex : Nat → Bool) (p : Option Addr) (cap BI off : Nat) (w : World) (I : Inp F ex p BI off w) :
    Calls Try.prog 6 #[.slice p F.n cap] w fun e w' => refPost F w e w' := by
  have HI : Hid (Inp F ex p BI off w) := I
  clear I
  by_cases hn : 4096 < F.n
  · go_enter Try.func6, Try.ntmps6
    go_wp2
    go_ret
    exact ⟨_, rfl, rfl, fun h => by simp at h⟩
  · go_enter Try.func6, Try.ntmps6
    go_wp2
    go_loopw [3, 4] (fun x y wr => ∃ T i : Nat, T ≤ 1048576 ∧ i ≤ F.n ∧ x = .int .i64 T ∧ y = .int .i64 i ∧ wr = w ∧ Hid (∀ k, k < i → (F.path k).size ≤ 1048576)) (fun _ y _ => F.n - (intOf y).toNat)
    case atStart => exact ⟨64 * F.n, 0, by omega, by omega, by go_num, rfl, rfl, fun k hk => by omega⟩
    case round =>
      obtain ⟨T, i, hT, hi, rfl, rfl, hw, HS⟩ := hrel
      obtain rfl := hw.symm
      by_cases hlt : i < F.n
      · obtain rfl := HI.out.adr (by omega)
        have c0 := HI.out.path i hlt
        have c1 := HI.out.treat i hlt
        obtain ⟨a, ha⟩ : ∃ a, F.path i = a := ⟨_, rfl⟩
        have HA : Hid (F.path i = a) := ha
        rw [ha] at c0
        clear ha
        generalize F.treat i = t at c1
        by_cases g1 : 1048576 < T + a.size
        · have g1' : (1048576 : Int) - (T : Int) < (a.size : Int) := by omega
          go_wp2
          go_ret
          exact ⟨_, rfl, rfl, fun h => by simp at h⟩
        have g1' : ¬ ((1048576 : Int) - (T : Int) < (a.size : Int)) := by omega
        by_cases g2 : 1048576 < T + a.size + t.size
        · have g2' : (1048576 : Int) - ((T : Int) + (a.size : Int)) < (t.size : Int) := by omega
          go_wp2
          go_ret
          exact ⟨_, rfl, rfl, fun h => by simp at h⟩
        have g2' : ¬ ((1048576 : Int) - ((T : Int) + (a.size : Int)) < (t.size : Int)) := by omega
        have HS' : Hid (∀ k, k < i + 1 → (F.path k).size ≤ 1048576) := fun k hk => by
          rcases Nat.eq_or_lt_of_le (Nat.le_of_lt_succ hk) with e | e
          · rw [e, HA.out]; omega
          · exact HS.out k e
        go_wp2
        go_roundw
        case rel => exact ⟨T + a.size + t.size, i + 1, by omega, by omega, by go_num, by go_num, trivial, HS'⟩
        case measure => simp [intOf]; omega
      · obtain rfl : i = F.n := by omega
        go_wp2
        go_loopw [5, 6] (fun x y wr => ∃ i : Nat, i ≤ F.n ∧ x = .int .i64 (szTo F 0 i) ∧ y = .int .i64 i ∧ wr = w ∧ 0 ≤ szTo F 0 i ∧ szTo F 0 i ≤ 1073741824 ∧ Hid (∀ k, k < i → 0 ≤ F.add k ∧ 0 ≤ F.del k)) (fun _ y _ => F.n - (intOf y).toNat)
        case atStart => exact ⟨0, by omega, rfl, rfl, rfl, by simp [szTo], by simp [szTo], fun k hk => by omega⟩
        case round =>
          obtain ⟨i, hi, rfl, rfl, hw, hz0, hz1, HK⟩ := hrel
          obtain rfl := hw.symm
          by_cases hlt : i < F.n
          · obtain rfl := HI.out.adr (by omega)
            have c0 := HI.out.add i hlt
            have c1 := HI.out.del i hlt
            obtain ⟨a, ha⟩ : ∃ a, F.add i = a := ⟨_, rfl⟩
            obtain ⟨d, hd⟩ : ∃ d, F.del i = d := ⟨_, rfl⟩
            have HA : Hid (F.add i = a ∧ F.del i = d) := ⟨ha, hd⟩
            have HZ : Hid (szTo F 0 (i + 1) = szTo F 0 i + (a + d)) := by show szTo F 0 (i + 1) = _; simp [szTo, ha, hd]
            rw [ha] at c0
            rw [hd] at c1
            clear ha hd
            generalize szTo F 0 i = z at *
            by_cases g1 : a < 0
            · go_wp2
              go_ret
              exact ⟨_, rfl, rfl, fun h => by simp at h⟩
            have e1 : decide (a < 0) = false := decide_eq_false g1
            by_cases g2 : 1073741824 < a
            · go_wp2
              go_ret
              exact ⟨_, rfl, rfl, fun h => by simp at h⟩
            have e2 : decide (1073741824 < a) = false := decide_eq_false g2
            by_cases g3 : d < 0
            · go_wp2
              go_ret
              exact ⟨_, rfl, rfl, fun h => by simp at h⟩
            have e3 : decide (d < 0) = false := decide_eq_false g3
            by_cases g4 : 1073741824 < d
            · go_wp2
              go_ret
              exact ⟨_, rfl, rfl, fun h => by simp at h⟩
            have e4 : decide (1073741824 < d) = false := decide_eq_false g4
            by_cases g5 : 1073741824 < z + (a + d)
            · go_wp2
              go_ret
              exact ⟨_, rfl, rfl, fun h => by simp at h⟩
            have HK' : Hid (∀ k, k < i + 1 → 0 ≤ F.add k ∧ 0 ≤ F.del k) := fun k hk => by
              rcases Nat.eq_or_lt_of_le (Nat.le_of_lt_succ hk) with e | e
              · rw [e, HA.out.1, HA.out.2]; omega
              · exact HK.out k e
            go_wp2
            go_roundw
            case rel => exact ⟨i + 1, by omega, by rw [HZ.out], by go_num, trivial, by rw [HZ.out]; omega, by rw [HZ.out]; omega, HK'⟩
            case measure => simp [intOf]; omega
          · obtain rfl : i = F.n := by omega
            have HP : Hid (Bd F ∧ ∀ i, i < F.n → (F.path i).size ≤ 1048576) := ⟨⟨by omega, fun k hk => (HK.out k hk).1, fun k hk => (HK.out k hk).2, by omega⟩, HS.out⟩
            go_wp2
            go_ret
            exact ⟨_, rfl, rfl, fun _ => HP.out⟩
end Go.Proofs.Qxb6618735a

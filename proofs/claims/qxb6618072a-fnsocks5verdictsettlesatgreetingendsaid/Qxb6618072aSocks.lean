/- seat b6618072a: the contracts of ferrule.matchSOCKS5 and of its shim, and the plain verdict -/
import Derived.Test.Qxb6618072aRows
import Derived.WalkKit
import Derived.WalkSpells
namespace Go.Proofs.Qxb6618072a
open Go.RowKit

/-- the verdict over n bytes of which the first two are z0, z1: 0 needs more, 1 matches, 2 does not match -/
def socks (n : Nat) (z0 z1 : Int) : Int :=
  if 0 < n ∧ z0 ≠ 5 then 2 else if 1 < n ∧ z1 = 0 then 2 else if n < 2 ∨ (n : Int) < 2 + z1 then 0 else 1

theorem socks_none (z0 z1 : Int) : socks 0 z0 z1 = 0 := by simp [socks]
theorem socks_bad (n : Nat) (z0 z1 : Int) (h : 0 < n) (h0 : z0 ≠ 5) : socks n z0 z1 = 2 := by simp [socks, h, h0]
theorem socks_one (z0 z1 : Int) (h0 : z0 = 5) : socks 1 z0 z1 = 0 := by simp [socks, h0]
theorem socks_zero (n : Nat) (z0 z1 : Int) (h : 1 < n) (h1 : z1 = 0) : socks n z0 z1 = 2 := by simp [socks, h, h1]
theorem socks_short (n : Nat) (z0 z1 : Int) (h0 : z0 = 5) (h1 : z1 ≠ 0) (h : n < 2 ∨ (n : Int) < 2 + z1) : socks n z0 z1 = 0 := by simp [socks, h0, h1, h]
theorem socks_full (n : Nat) (z0 z1 : Int) (h0 : z0 = 5) (h1 : z1 ≠ 0) (h : 2 ≤ n) (h2 : 2 + z1 ≤ (n : Int)) : socks n z0 z1 = 1 := by
  simp [socks, h0, h1]; omega

theorem ret_int {k : IntKind} {a b : Int} (h : a = b) : Ending.returned (.int k a) = .returned (.int k b) := by rw [h]

set_option maxHeartbeats 800000 in
theorem match_any (a : Option Addr) (n c : Nat) (z0 z1 : Int) (w : World) (hn : n ≤ 1048576) (hz1 : 0 ≤ z1) (hz1' : z1 ≤ 255)
    (hrow : 0 < n → ∃ b off, a = some ⟨b, off, none⟩ ∧ w.cell? ⟨b, off, none⟩ = some (.int .u8 z0) ∧ (1 < n → w.cell? ⟨b, off + 1, none⟩ = some (.int .u8 z1))) :
    Calls Try.prog 19 #[.slice a n c] w fun e w' => e = .returned (.int .i64 (socks n z0 z1)) ∧ w' = w := by
  by_cases h0 : n = 0
  · subst h0
    clear hrow
    go_enter Try.func19, Try.ntmps19
    go_wp2
    go_ret
    exact ⟨ret_int (socks_none z0 z1).symm, rfl⟩
  obtain ⟨b, off, rfl, hc0, hc1⟩ := hrow (by omega)
  by_cases hv : z0 = 5
  · have HV : Hid (z0 = 5) := hv
    have tv : (z0 != 5) = false := by simp [hv]
    clear hv
    by_cases h1 : n = 1
    · subst h1
      clear hc1
      go_enter Try.func19, Try.ntmps19
      go_wp2
      go_ret
      exact ⟨ret_int (socks_one z0 z1 HV.out).symm, rfl⟩
    · have hc1 := hc1 (by omega)
      by_cases hm : z1 = 0
      · have HM : Hid (z1 = 0) := hm
        have tm : (z1 == 0) = true := by simp [hm]
        clear hm
        go_enter Try.func19, Try.ntmps19
        go_wp2
        go_ret
        exact ⟨ret_int (socks_zero n z0 z1 (by omega) HM.out).symm, rfl⟩
      · have HM : Hid (z1 ≠ 0) := hm
        have tm : (z1 == 0) = false := by simp [hm]
        clear hm
        by_cases hl : (n : Int) < 2 + z1
        · go_enter Try.func19, Try.ntmps19
          go_wp2
          go_ret
          exact ⟨ret_int (socks_short n z0 z1 HV.out HM.out (.inr hl)).symm, rfl⟩
        · go_enter Try.func19, Try.ntmps19
          go_wp2
          go_ret
          exact ⟨ret_int (socks_full n z0 z1 HV.out HM.out (by omega) (by omega)).symm, rfl⟩
  · have tv : (z0 != 5) = true := by simp [hv]
    go_enter Try.func19, Try.ntmps19
    go_wp2
    go_ret
    exact ⟨ret_int (socks_bad n z0 z1 (by omega) hv).symm, rfl⟩

theorem zzmatch_any (a : Option Addr) (n c : Nat) (z0 z1 : Int) (w : World) (hn : n ≤ 1048576) (hz1 : 0 ≤ z1) (hz1' : z1 ≤ 255)
    (hrow : 0 < n → ∃ b off, a = some ⟨b, off, none⟩ ∧ w.cell? ⟨b, off, none⟩ = some (.int .u8 z0) ∧ (1 < n → w.cell? ⟨b, off + 1, none⟩ = some (.int .u8 z1))) :
    Calls Try.prog 8 #[.slice a n c] w fun e w' => e = .returned (.int .i64 (socks n z0 z1)) ∧ w' = w := by
  go_enter Try.func8, Try.ntmps8
  go_wp2_with (go_at_call 19; refine (match_any a n c z0 z1 _ hn hz1 hz1' hrow).mono ?_; rintro e w' ⟨rfl, rfl⟩)
  go_ret
  exact ⟨rfl, rfl⟩
end Go.Proofs.Qxb6618072a

/- seat b6619348a: the contract of bench.share and of its shim ZZshare, and the plain arithmetic of a share -/
import Derived.Test.Qxb6619348aRows
import Derived.WalkKit
import Derived.RegionTactic
namespace Go.Proofs.Qxb6619348a
open Go.RowKit

/-- where goroutine g's run starts: g full shares and one more operation for each of the first n % t goroutines before it -/
def shFrom (n t g : Int) : Int := g * (n / t) + min g (n % t)
/-- how long goroutine g's run is -/
def shLen (n t g : Int) : Int := n / t + if g < n % t then 1 else 0

theorem sh_facts (n t g : Int) (hn : 0 ≤ n) (ht : 1 ≤ t) (hg : 0 ≤ g) (hgt : g ≤ t) :
    0 ≤ n / t ∧ 0 ≤ n % t ∧ n % t < t ∧ 0 ≤ g * (n / t) ∧ g * (n / t) + n % t ≤ n ∧ n / t ≤ n := by
  have h1 : 0 ≤ n / t := Int.ediv_nonneg hn (by omega)
  have h2 : 0 ≤ n % t := Int.emod_nonneg n (by omega)
  have h3 : n % t < t := Int.emod_lt_of_pos n (by omega)
  have h4 : 0 ≤ g * (n / t) := Int.mul_nonneg hg h1
  have h5 : g * (n / t) ≤ t * (n / t) := Int.mul_le_mul_of_nonneg_right hgt h1
  have h6 : t * (n / t) + n % t = n := Int.mul_ediv_add_emod n t
  have h7 : 1 * (n / t) ≤ t * (n / t) := Int.mul_le_mul_of_nonneg_right ht h1
  exact ⟨h1, h2, h3, h4, by omega, by omega⟩

theorem sh_room (n t g : Int) (hn : 0 ≤ n) (ht : 1 ≤ t) (hgt : g < t) : g * (n / t) + n / t + n % t ≤ n := by
  have h1 : 0 ≤ n / t := Int.ediv_nonneg hn (by omega)
  have h5 : (g + 1) * (n / t) ≤ t * (n / t) := Int.mul_le_mul_of_nonneg_right (by omega) h1
  have h6 : t * (n / t) + n % t = n := Int.mul_ediv_add_emod n t
  rw [Int.add_mul] at h5
  omega

theorem sh_next (n t g : Int) : shFrom n t (g + 1) = shFrom n t g + shLen n t g := by
  unfold shFrom shLen
  rw [Int.add_mul]
  split <;> omega

theorem sh_zero (n t : Int) (hn : 0 ≤ n) (ht : 1 ≤ t) : shFrom n t 0 = 0 := by
  have := sh_facts n t 0 hn ht (by omega) (by omega)
  unfold shFrom
  rw [Int.zero_mul]
  omega

theorem sh_end (n t : Int) (hn : 0 ≤ n) (ht : 1 ≤ t) : shFrom n t t = n := by
  have := sh_facts n t t hn ht (by omega) (by omega)
  have h6 : t * (n / t) + n % t = n := Int.mul_ediv_add_emod n t
  unfold shFrom
  omega

theorem sh_bounds (n t g : Int) (hn : 0 ≤ n) (ht : 1 ≤ t) (hg : 0 ≤ g) (hgt : g < t) :
    0 ≤ shFrom n t g ∧ 0 ≤ shLen n t g ∧ shFrom n t g + shLen n t g ≤ n := by
  have := sh_facts n t g hn ht hg (by omega)
  have := sh_room n t g hn ht hgt
  unfold shFrom shLen
  split <;> omega

theorem ret_two {k : IntKind} {a b c d : Int} (h : a = c) (h' : b = d) : Ending.returned (.tuple #[.int k a, .int k b]) = .returned (.tuple #[.int k c, .int k d]) := by rw [h, h']

set_option maxHeartbeats 400000 in
theorem share_any (n t g : Int) (w : World) (hn : 0 ≤ n) (hn2 : n ≤ 9223372036854775807) (ht : 1 ≤ t) (ht2 : t ≤ 9223372036854775807) (hg : 0 ≤ g) (hgt : g < t) :
    Calls Try.prog 7 #[.int .i64 n, .int .i64 t, .int .i64 g] w fun e w' => e = .returned (.tuple #[.int .i64 (shFrom n t g), .int .i64 (shFrom n t g + shLen n t g)]) ∧ w' = w.drew := by
  obtain ⟨f1, f2, f3, f4, f5, f6⟩ := sh_facts n t g hn ht hg (by omega)
  have f7 := sh_room n t g hn ht hgt
  have hm : wrap64 (g * (n / t)) = g * (n / t) := IntWalk.wrap64_in _ (by omega)
  go_enter Try.func7, Try.ntmps7
  go_wp2
  go_region
  all_goals go_wp2
  all_goals go_ret2
  all_goals exact ⟨ret_two (by unfold shFrom; omega) (by unfold shFrom shLen; split <;> omega), rfl⟩

theorem zzshare_any (n t g : Int) (w : World) (hn : 0 ≤ n) (hn2 : n ≤ 9223372036854775807) (ht : 1 ≤ t) (ht2 : t ≤ 9223372036854775807) (hg : 0 ≤ g) (hgt : g < t) :
    Calls Try.prog 5 #[.int .i64 n, .int .i64 t, .int .i64 g] w fun e w' => e = .returned (.tuple #[.int .i64 (shFrom n t g), .int .i64 (shFrom n t g + shLen n t g)]) ∧ w' = w.drew := by
  go_enter Try.func5, Try.ntmps5
  go_wp2_with (go_at_call 7; refine (share_any n t g _ hn hn2 ht ht2 hg hgt).mono ?_; rintro e w' ⟨rfl, rfl⟩)
  go_ret2
  exact ⟨rfl, rfl⟩
end Go.Proofs.Qxb6619348a

/- seat b6619348a: the proof of Rows.FnShareGrowsByOneEachSaid; the frame was laid by proof-skeleton.mjs, the walk is by hand over Qxb6619348aShare -/
import Derived.Test.Qxb6619348aRows
import Derived.Test.Qxb6619348aShare
import Derived.WalkKit
import Derived.ProofKit
import Derived.OpenShut
import Derived.ShutString
namespace Go.Proofs.Qxb6619348a.fnShareGrowsByOneEach
open Go.ChangeShapes Go.WideShapes Go.ChangeAt Go.RowKit
open Go.ChangeMaps (open_string shut_string)
set_option linter.unusedVariables false      -- a walk need not use every 'w<i>' (that an integer argument fits its kind)

theorem own : ownKnob Try.prog.godebug = none := by kernel_rfl

/-! ### STEP 1: THE WALK: the Go text returns true. 'Grown w w'': the world has at most new blocks (Derived/RowKit3.lean). Part the cases AHEAD of 'go_enter' where a test parts the walk; take each callee by a contract of your own. -/
theorem grow_div (n t : Int) (ht : 1 ≤ t) : (n + t) / t = n / t + 1 ∧ (n + t) % t = n % t := by
  exact ⟨Int.add_ediv_of_dvd_right (Int.dvd_refl t) |>.trans (by rw [Int.ediv_self (by omega)]), by simp⟩

theorem grow_from (n t g : Int) (ht : 1 ≤ t) : shFrom (n + t) t g = shFrom n t g + g ∧ shLen (n + t) t g = shLen n t g + 1 := by
  obtain ⟨h1, h2⟩ := grow_div n t ht
  unfold shFrom shLen
  rw [h1, h2, Int.mul_add]
  split <;> omega

theorem robin (n t g : Int) (ht : 1 ≤ t) (hg : 0 ≤ g) (hgt : g < t) : (n - g + t - 1) / t = shLen n t g := by
  have h6 : t * (n / t) + n % t = n := Int.mul_ediv_add_emod n t
  have h2 : 0 ≤ n % t := Int.emod_nonneg n (by omega)
  have h3 : n % t < t := Int.emod_lt_of_pos n (by omega)
  have e : n - g + t - 1 = (n % t - g + t - 1) + t * (n / t) := by omega
  rw [e, Int.add_mul_ediv_left _ _ (by omega)]
  unfold shLen
  split
  · have : (n % t - g + t - 1) / t = 1 := by
      rw [show n % t - g + t - 1 = (n % t - g - 1) + t * 1 from by omega, Int.add_mul_ediv_left _ _ (by omega), Int.ediv_eq_zero_of_lt (by omega) (by omega)]; rfl
    omega
  · have : (n % t - g + t - 1) / t = 0 := Int.ediv_eq_zero_of_lt (by omega) (by omega)
    omega

theorem ret_bool {b : Bool} (h : b = true) : Ending.returned (.bool b) = .returned (.bool true) := by rw [h]
theorem max_any (w : World) : Calls Try.prog 6 #[] w fun e w' => e = .returned (.int .i64 9223372036854775807) ∧ w' = w := by
  go_enter Try.func6, Try.ntmps6
  go_wp2
  go_ret
  exact ⟨rfl, rfl⟩

set_option maxHeartbeats 800000 in
theorem walk (a0 : Int) (a1 : Int) (a2 : Int) (w0 : (Lit.int .i64 a0).wf = true) (w1 : (Lit.int .i64 a1).wf = true) (w2 : (Lit.int .i64 a2).wf = true) (w : World) :
    Calls Try.prog 4 #[.int .i64 a0, .int .i64 a1, .int .i64 a2] w fun e w' => e = .returned (.bool true) ∧ Grown w w' := by
  have b0 := bounds_i64 w0
  have b1 := bounds_i64 w1
  have b2 := bounds_i64 w2
  clear w0 w1 w2
  obtain ⟨b01, b02⟩ := b0
  obtain ⟨b11, b12⟩ := b1
  obtain ⟨b21, b22⟩ := b2
  by_cases c0 : a0 < 0
  · go_enter Try.func4, Try.ntmps4
    go_wp2
    go_ret
    exact ⟨rfl, Grown.refl _⟩
  by_cases c1 : a1 < 1
  · go_enter Try.func4, Try.ntmps4
    go_wp2
    go_ret
    exact ⟨rfl, Grown.refl _⟩
  by_cases c2 : a2 < 0
  · go_enter Try.func4, Try.ntmps4
    go_wp2
    go_ret
    exact ⟨rfl, Grown.refl _⟩
  by_cases c3 : a1 ≤ a2
  · go_enter Try.func4, Try.ntmps4
    go_wp2
    go_ret
    exact ⟨rfl, Grown.refl _⟩
  by_cases c4 : 9223372036854775807 - a1 < a0
  · go_enter Try.func4, Try.ntmps4
    go_wp2
    go_ret
    exact ⟨rfl, Grown.refl _⟩
  obtain ⟨f1, f2⟩ := grow_from a0 a1 a2 (by omega)
  have f3 := robin a0 a1 a2 (by omega) (by omega) (by omega)
  obtain ⟨g1, g2, g3⟩ := sh_bounds a0 a1 a2 (by omega) (by omega) (by omega) (by omega)
  obtain ⟨g4, g5, g6⟩ := sh_bounds (a0 + a1) a1 a2 (by omega) (by omega) (by omega) (by omega)
  rw [f1, f2] at g6
  clear g4 g5
  go_enter Try.func4, Try.ntmps4
  go_wp2_with (go_at_call 6; refine (max_any _).mono ?_; rintro e w' ⟨rfl, rfl⟩)
  refine (zzshare_any a0 a1 a2 _ (by omega) (by omega) (by omega) (by omega) (by omega) (by omega)).mono ?_
  rintro e w' ⟨rfl, rfl⟩
  go_wp2_with fail
  refine (zzshare_any (a0 + a1) a1 a2 _ (by omega) (by omega) (by omega) (by omega) (by omega) (by omega)).mono ?_
  rintro e w' ⟨rfl, rfl⟩
  go_wp2
  go_ret
  exact ⟨ret_bool (show (shFrom a0 a1 a2 + shLen a0 a1 a2 - shFrom a0 a1 a2 == shLen a0 a1 a2) = true by rw [beq_iff_eq]; omega), by repeat (first | exact Grown.refl _ | apply Grown.drew)⟩

/-! ### THE ROW's STEP: WRITTEN OUT: LEAVE IT -/
set_option maxRecDepth 100000 in
theorem lifted (os : Os) (started : os.Started) (H : Type) (enc : TypeId × Value → H) :
    ReturnsInHanded {} Try.checked os 4 .any (Rows.fnShareGrowsByOneEachSpec.pre6 enc Try.prog Try.f4 Rows.fnShareGrowsByOneEachRow.domain false) (Rows.fnShareGrowsByOneEachSpec.post enc Try.prog Try.f4 false true false false) := by
  refine returnsInHanded_of_change (C := Try.checked) own started (by kernel_rfl) Try.func4
    (ChangeSpec.witness6 (enc := enc) (C := Try.checked) false ⟨#[], #[.int .i64 0, .int .i64 0, .int .i64 0], []⟩ 8 (by kernel_rfl) (by kernel_rfl) (by kernel_rfl) (by kernel_rfl)) ?_
  intro W base args ds gs before hval0 hW hcnd _
  have hval : ∀ (j : Nat) t v, Try.f4.params[j]? = some t → args[j]? = some v → Value.okWide Try.prog W .any base t v := hval0
  have hW' := hW
  obtain ⟨p, q, hA0, hV, rfl, hfz, hnd⟩ := hW
  have hA : DataW.TrodAll enc Try.prog W 0 (fun _ => true) true Try.f4.params.toList args.toList ds p := hA0
  rw [Try.params4] at hA hval
  obtain ⟨v0, vs0, d0, ds0, p0, q0, hargs, rfl, rfl, h0, r0⟩ := trodAll_cons hA
  obtain ⟨v1, vs1, d1, ds1, p1, q1, rfl, rfl, rfl, h1, r1⟩ := trodAll_cons r0
  obtain ⟨v2, vs2, d2, ds2, p2, q2, rfl, rfl, rfl, h2, r2⟩ := trodAll_cons r1
  obtain ⟨rfl, rfl, rfl⟩ := trodAll_nil r2
  obtain rfl : args = #[v0, v1, v2] := by cases args; simp_all
  obtain ⟨rfl, rfl⟩ := trodVars_none hV
  obtain ⟨a0, rfl, rfl, rfl, w0⟩ := open_int Try.underlying3 (hval 0 3 v0 rfl rfl) h0
  obtain ⟨a1, rfl, rfl, rfl, w1⟩ := open_int Try.underlying3 (hval 1 3 v1 rfl rfl) h1
  obtain ⟨a2, rfl, rfl, rfl, w2⟩ := open_int Try.underlying3 (hval 2 3 v2 rfl rfl) h2
  clear hA0 hval0
  simp only [List.append_nil] at hW'
  refine (walk a0 a1 a2 w0 w1 w2 W).mono fun e W' ⟨he, hg⟩ => ?_
  subst he
  exact ⟨_, rfl, post_of_same (pa := []) (pv := []) hW' (fun _ _ _ => (trodAll_cons_mk (shut_bool Try.underlying4 _) trodAll_mk0)) (fun sp _ => (trodAll_cons_mk (shut_int Try.underlying3 w0) (trodAll_cons_mk (shut_int Try.underlying3 w1) (trodAll_cons_mk (shut_int Try.underlying3 w2) trodAll_mk0)))) (fun _ _ => rfl) rfl
    (hg.frame _) hg.2.1 (ok_one (by kernel_rfl) rfl (okWide_bool_mk Try.underlying4 _))⟩

theorem over : Rows.fnShareGrowsByOneEachRow.holds Try.pinned (OpenSpec.ofChange Rows.fnShareGrowsByOneEachSpec) :=
  OpenClaim.holds_of_wide 4 Try.f4 rfl rfl rfl rfl rfl rfl rfl ⟨rfl, rfl, rfl, rfl, rfl⟩ rfl rfl rfl rfl rfl (by kernel_rfl) Try.func4 (by kernel_rfl)
    (of_decide_eq_true (by kernel_rfl)) (by unfold Func.isWrapper; first | (rw [if_pos (by decide +kernel)]; kernel_rfl) | (rw [if_neg (by decide +kernel)]; exact ⟨rfl, rfl⟩))
    (fun os started H enc _ => lifted os started H enc)

/-- THE STATEMENT -/
theorem proved : Rows.FnShareGrowsByOneEachSaid :=
  over
end Go.Proofs.Qxb6619348a.fnShareGrowsByOneEach

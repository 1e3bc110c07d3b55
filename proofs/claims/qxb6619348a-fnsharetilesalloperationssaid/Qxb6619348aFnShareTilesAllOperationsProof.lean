/- seat b6619348a: the proof of Rows.FnShareTilesAllOperationsSaid; the frame was laid by proof-skeleton.mjs, the walk is by hand over Qxb6619348aShare -/
import Derived.Test.Qxb6619348aRows
import Derived.Test.Qxb6619348aShare
import Derived.WalkKit
import Derived.ProofKit
import Derived.OpenShut
import Derived.ShutString
namespace Go.Proofs.Qxb6619348a.fnShareTilesAllOperations
open Go.ChangeShapes Go.WideShapes Go.ChangeAt Go.RowKit
open Go.ChangeMaps (open_string shut_string)
set_option linter.unusedVariables false      -- a walk need not use every 'w<i>' (that an integer argument fits its kind)

theorem own : ownKnob Try.prog.godebug = none := by kernel_rfl

/-! ### STEP 1: THE WALK: the Go text returns true. 'Grown w w'': the world has at most new blocks (Derived/RowKit3.lean). Part the cases AHEAD of 'go_enter' where a test parts the walk; take each callee by a contract of your own. -/
theorem val_eq {k : IntKind} {a b : Int} (h : a = b) : Value.int k a = .int k b := by rw [h]
theorem len_le (n t : Int) (k : Int) (hk : 0 < k) : shLen n t k ≤ shLen n t (k - 1) ∧ shLen n t 0 - shLen n t k ≤ 1 := by
  unfold shLen
  repeat' split
  all_goals omega

set_option maxHeartbeats 800000 in
theorem walk (a0 : Int) (a1 : Int) (w0 : (Lit.int .i64 a0).wf = true) (w1 : (Lit.int .i64 a1).wf = true) (w : World) :
    Calls Try.prog 3 #[.int .i64 a0, .int .i64 a1] w fun e w' => e = .returned (.bool true) ∧ Grown w w' := by
  have b0 := bounds_i64 w0
  have b1 := bounds_i64 w1
  clear w0 w1
  obtain ⟨b01, b02⟩ := b0
  obtain ⟨b11, b12⟩ := b1
  by_cases c0 : a0 < 0
  · go_enter Try.func3, Try.ntmps3
    go_wp2
    go_ret
    exact ⟨rfl, Grown.refl _⟩
  by_cases c1 : a1 < 1
  · go_enter Try.func3, Try.ntmps3
    go_wp2
    go_ret
    exact ⟨rfl, Grown.refl _⟩
  by_cases c2 : 65536 < a1
  · go_enter Try.func3, Try.ntmps3
    go_wp2
    go_ret
    exact ⟨rfl, Grown.refl _⟩
  go_enter Try.func3, Try.ntmps3
  go_wp2
  go_loopw [5, 6, 7, 8] (fun p f l i wr => ∃ k : Nat, (k : Int) ≤ a1 ∧ i = .int .i64 k ∧ p = .int .i64 (shFrom a0 a1 k) ∧ f = .int .i64 (if k = 0 then 0 else shLen a0 a1 0) ∧ l = .int .i64 (if k = 0 then 0 else shLen a0 a1 (k - 1)) ∧ Grown w wr) (fun _ _ _ i _ => (a1 - intOf i).toNat)
  case atStart => exact ⟨0, by omega, rfl, by rw [show ((0 : Nat) : Int) = 0 from rfl, sh_zero a0 a1 (by omega) (by omega)], rfl, rfl, Grown.refl _⟩
  case round =>
    obtain ⟨k, hk, rfl, rfl, rfl, rfl, hg⟩ := hrel
    by_cases hlt : (k : Int) < a1
    · obtain ⟨g1, g2, g3⟩ := sh_bounds a0 a1 k (by omega) (by omega) (by omega) hlt
      have HN : Hid (shFrom a0 a1 ((k + 1 : Nat) : Int) = shFrom a0 a1 k + shLen a0 a1 k) := by
        rw [show ((k + 1 : Nat) : Int) = (k : Int) + 1 from by omega]; exact sh_next a0 a1 k
      obtain ⟨z1, z2, z3⟩ := sh_bounds a0 a1 0 (by omega) (by omega) (by omega) (by omega)
      by_cases hk0 : k = 0
      · subst hk0
        go_wp2_with (go_at_call 5; refine (zzshare_any a0 a1 _ _ (by omega) (by omega) (by omega) (by omega) (by omega) (by omega)).mono ?_; rintro e w' ⟨rfl, rfl⟩)
        go_roundw
        case rel => exact ⟨1, by omega, rfl, val_eq HN.out.symm, val_eq (by rw [if_neg (by omega)]; omega), val_eq (by rw [if_neg (by omega)]; simp; omega), hg.drew⟩
        case measure => simp [intOf]; omega
      · obtain ⟨m1, m2⟩ := len_le a0 a1 k (by omega)
        go_wp2_with (go_at_call 5; refine (zzshare_any a0 a1 _ _ (by omega) (by omega) (by omega) (by omega) (by omega) (by omega)).mono ?_; rintro e w' ⟨rfl, rfl⟩)
        go_roundw
        case rel => exact ⟨k + 1, by omega, by go_num, val_eq HN.out.symm, val_eq (by rw [if_neg (by omega)]), val_eq (by rw [if_neg (by omega), show (((k + 1 : Nat) : Int) - 1) = (k : Int) from by omega]; omega), hg.drew⟩
        case measure => simp [intOf]; omega
    · have HE : Hid (shFrom a0 a1 k = a0) := by
        have : (k : Int) = a1 := by omega
        rw [this]; exact sh_end a0 a1 (by omega) (by omega)
      have hb : (shFrom a0 a1 k == a0) = true := by rw [HE.out]; simp
      go_wp2
      go_ret
      exact ⟨rfl, hg⟩

/-! ### THE ROW's STEP: WRITTEN OUT: LEAVE IT -/
set_option maxRecDepth 100000 in
theorem lifted (os : Os) (started : os.Started) (H : Type) (enc : TypeId × Value → H) :
    ReturnsInHanded {} Try.checked os 3 .any (Rows.fnShareTilesAllOperationsSpec.pre6 enc Try.prog Try.f3 Rows.fnShareTilesAllOperationsRow.domain false) (Rows.fnShareTilesAllOperationsSpec.post enc Try.prog Try.f3 false true false false) := by
  refine returnsInHanded_of_change (C := Try.checked) own started (by kernel_rfl) Try.func3
    (ChangeSpec.witness6 (enc := enc) (C := Try.checked) false ⟨#[], #[.int .i64 0, .int .i64 0], []⟩ 8 (by kernel_rfl) (by kernel_rfl) (by kernel_rfl) (by kernel_rfl)) ?_
  intro W base args ds gs before hval0 hW hcnd _
  have hval : ∀ (j : Nat) t v, Try.f3.params[j]? = some t → args[j]? = some v → Value.okWide Try.prog W .any base t v := hval0
  have hW' := hW
  obtain ⟨p, q, hA0, hV, rfl, hfz, hnd⟩ := hW
  have hA : DataW.TrodAll enc Try.prog W 0 (fun _ => true) true Try.f3.params.toList args.toList ds p := hA0
  rw [Try.params3] at hA hval
  obtain ⟨v0, vs0, d0, ds0, p0, q0, hargs, rfl, rfl, h0, r0⟩ := trodAll_cons hA
  obtain ⟨v1, vs1, d1, ds1, p1, q1, rfl, rfl, rfl, h1, r1⟩ := trodAll_cons r0
  obtain ⟨rfl, rfl, rfl⟩ := trodAll_nil r1
  obtain rfl : args = #[v0, v1] := by cases args; simp_all
  obtain ⟨rfl, rfl⟩ := trodVars_none hV
  obtain ⟨a0, rfl, rfl, rfl, w0⟩ := open_int Try.underlying3 (hval 0 3 v0 rfl rfl) h0
  obtain ⟨a1, rfl, rfl, rfl, w1⟩ := open_int Try.underlying3 (hval 1 3 v1 rfl rfl) h1
  clear hA0 hval0
  simp only [List.append_nil] at hW'
  refine (walk a0 a1 w0 w1 W).mono fun e W' ⟨he, hg⟩ => ?_
  subst he
  exact ⟨_, rfl, post_of_same (pa := []) (pv := []) hW' (fun _ _ _ => (trodAll_cons_mk (shut_bool Try.underlying4 _) trodAll_mk0)) (fun sp _ => (trodAll_cons_mk (shut_int Try.underlying3 w0) (trodAll_cons_mk (shut_int Try.underlying3 w1) trodAll_mk0))) (fun _ _ => rfl) rfl
    (hg.frame _) hg.2.1 (ok_one (by kernel_rfl) rfl (okWide_bool_mk Try.underlying4 _))⟩

theorem over : Rows.fnShareTilesAllOperationsRow.holds Try.pinned (OpenSpec.ofChange Rows.fnShareTilesAllOperationsSpec) :=
  OpenClaim.holds_of_wide 3 Try.f3 rfl rfl rfl rfl rfl rfl rfl ⟨rfl, rfl, rfl, rfl, rfl⟩ rfl rfl rfl rfl rfl (by kernel_rfl) Try.func3 (by kernel_rfl)
    (of_decide_eq_true (by kernel_rfl)) (by unfold Func.isWrapper; first | (rw [if_pos (by decide +kernel)]; kernel_rfl) | (rw [if_neg (by decide +kernel)]; exact ⟨rfl, rfl⟩))
    (fun os started H enc _ => lifted os started H enc)

/-- THE STATEMENT -/
theorem proved : Rows.FnShareTilesAllOperationsSaid :=
  over
end Go.Proofs.Qxb6619348a.fnShareTilesAllOperations

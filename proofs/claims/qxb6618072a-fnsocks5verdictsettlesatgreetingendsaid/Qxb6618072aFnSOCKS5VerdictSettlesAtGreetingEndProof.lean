/- seat b6618072a: the proof of Rows.FnSOCKS5VerdictSettlesAtGreetingEndSaid; the frame was laid by proof-skeleton.mjs, the walk is by hand over Qxb6618072aSocks -/
import Derived.Test.Qxb6618072aRows
import Derived.Test.Qxb6618072aCopy
import Derived.Test.Qxb6618072aSocks
import Derived.WalkKit
import Derived.ProofKit
import Derived.OpenShut
import Derived.ShutString
import Derived.ChangeOld
import Derived.Below
import Derived.WalkSpells
import Derived.Deep.OwnRows
import Derived.Laws.CopyOwn
namespace Go.Proofs.Qxb6618072a.fnSOCKS5VerdictSettlesAtGreetingEnd
open Go.ChangeShapes Go.WideShapes Go.ChangeAt Go.RowKit
open Go.ChangeMaps (open_string shut_string)
set_option linter.unusedVariables false

theorem own : ownKnob Try.prog.godebug = none := by kernel_rfl
theorem laidOut : laidOutB Try.prog = true := by kernel_rfl

/-- WHAT THE WALK IS TOLD OF A SLICE OF INTEGERS THAT CAME IN: it is nil; or it leads to a row of 'cap' cells, the numbers 'zs' (the first 'len' are its elements, the rest its spare room), each fitting its kind. -/
def IsRow (k : IntKind) (w : World) (a : Option Addr) (len cap : Nat) (zs : List Int) : Prop :=
  (a = none ∧ len = 0 ∧ cap = 0 ∧ zs = []) ∨
  ∃ x, a = some x ∧ len ≤ cap ∧ cap ≤ maxLen ∧ zs.length = cap ∧ (∀ i, i < zs.length → w.cell? (x.add i) = some (.int k (zs.getD i 0))) ∧ ∀ n ∈ zs, (Lit.int k n).wf = true

/-! ### STEP 1: THE WALK: the Go text returns true, AND WRITES NOTHING THAT WAS THERE: 'Below w.heap.size w w'' (Derived/Below.lean: '.refl', '.alloc', '.drew', '.setCell' at a new block, '.trans'). Open each 'IsRow' by 'rcases' AHEAD of 'go_enter'; part every test ahead of the walk. -/
set_option maxHeartbeats 400000 in
theorem bytes_ok (a : Option Addr) (n c : Nat) (w : World) (hn : n ≤ 1048576) : Calls Try.prog 7 #[.slice a n c] w fun e w' => e = .returned (.bool true) ∧ w' = w := by
  go_enter Try.func7, Try.ntmps7
  go_wp2
  go_ret
  exact ⟨rfl, rfl⟩
theorem bytes_no (a : Option Addr) (n c : Nat) (w : World) (hn : 1048576 < n) (hm : n ≤ 9223372036854775807) : Calls Try.prog 7 #[.slice a n c] w fun e w' => e = .returned (.bool false) ∧ w' = w := by
  go_enter Try.func7, Try.ntmps7
  go_wp2
  go_ret
  exact ⟨rfl, rfl⟩

set_option maxHeartbeats 1600000 in
theorem rest (x : Addr) (n c : Nat) (C : Array Value) (y0 y1 : Int) (w : World) (hs : n ≤ 65536) (hc0 : 0 < n → C[0]? = some (.int .u8 y0)) (hc1 : 1 < n → C[1]? = some (.int .u8 y1)) (l1 : 0 ≤ y1) (u1 : y1 ≤ 255)
    (hneq : ∀ (w : World) (a : Option Addr) (n c : Nat), (binOp .neq 22 (.slice a n c) (.slice none 0 0)).run Try.prog w = .ok (.bool (!a.isNone)) w)
    (hmk : ∀ w : World, (Instr.makeSlice 22 (.int .i64 (n : Int)) (.int .i64 (n : Int))).run Try.prog w = .ok (.slice (some ⟨w.heap.size, 0, none⟩) n n) (w.alloc (.cells (madeCells #[.int .u8 0] n) 5)))
    (hcp : ∀ ty, (Builtin.copy_ #[22, 22] ty #[.slice (some ⟨w.heap.size, 0, none⟩) n n, .slice (some x) n c]).run Try.prog (w.alloc (.cells (madeCells #[.int .u8 0] n) 5)) = .ok (.int .i64 n) (w.alloc (.cells C 5))) :
    Calls Try.prog 3 #[.slice (some x) n c] w fun e w' => e = .returned (.bool true) ∧ Below w.heap.size w w' := by
  have HR : Hid (∀ k, k ≤ n → 0 < k → ∃ b off, (some ⟨w.heap.size, 0, none⟩ : Option Addr) = some ⟨b, off, none⟩ ∧ (w.alloc (.cells C 5)).cell? ⟨b, off, none⟩ = some (.int .u8 y0) ∧ (1 < k → (w.alloc (.cells C 5)).cell? ⟨b, off + 1, none⟩ = some (.int .u8 y1))) :=
    fun k hk h0 => ⟨w.heap.size, 0, rfl, by rw [World.cell?_alloc_new]; exact hc0 (by omega), fun h1 => by rw [World.cell?_alloc_new]; exact hc1 (by omega)⟩
  by_cases h0 : n < 1
  · clear hc0 hc1
    have d1 : decide ((1 : Int) ≤ (n : Int)) = false := decide_eq_false (by omega)
    have d2 : decide ((2 : Int) ≤ (n : Int)) = false := decide_eq_false (by omega)
    go_enter Try.func3, Try.ntmps3
    go_wp2_with (go_at_call 7; refine (bytes_ok _ _ _ _ (by omega)).mono ?_; rintro e w' ⟨rfl, rfl⟩)
    go_loop [6] (fun i => ∃ k : Nat, k ≤ n + 1 ∧ i = .int .i64 k) (fun i => n + 1 - (intOf i).toNat)
    case atStart => exact ⟨0, by omega, rfl⟩
    case round =>
      obtain ⟨k, hk, rfl⟩ := hrel
      by_cases hlt : k ≤ n
      · skip
        have hv : socks k y0 y1 = 0 := by rw [show k = 0 by omega]; exact socks_none y0 y1
        go_wp2_with (go_at_call 8; refine (zzmatch_any _ k _ y0 y1 _ (by omega) l1 u1 (HR.out k (by omega))).mono ?_; rintro e w' ⟨rfl, rfl⟩)
        go_round
        case rel => exact ⟨k + 1, by omega, by go_num⟩
        case measure => simp [intOf]; omega
      · go_wp2
        go_ret
        exact ⟨rfl, (Below.refl _ _).alloc (Nat.le_refl _) _⟩
  have hc0 := hc0 (by omega)
  by_cases hv0 : y0 = 5
  · have HV : Hid (y0 = 5) := hv0
    have tv : (y0 != 5) = false := by simp [hv0]
    clear hv0
    by_cases h1 : n < 2
    · clear hc1
      have d2 : decide ((2 : Int) ≤ (n : Int)) = false := decide_eq_false (by omega)
      go_enter Try.func3, Try.ntmps3
      go_wp2_with (go_at_call 7; refine (bytes_ok _ _ _ _ (by omega)).mono ?_; rintro e w' ⟨rfl, rfl⟩)
      go_loop [6] (fun i => ∃ k : Nat, k ≤ n + 1 ∧ i = .int .i64 k) (fun i => n + 1 - (intOf i).toNat)
      case atStart => exact ⟨0, by omega, rfl⟩
      case round =>
        obtain ⟨k, hk, rfl⟩ := hrel
        by_cases hlt : k ≤ n
        · skip
          have hv : socks k y0 y1 = 0 := by rcases (show k = 0 ∨ k = 1 by omega) with rfl | rfl; exact socks_none y0 y1; exact socks_one y0 y1 HV.out
          go_wp2_with (go_at_call 8; refine (zzmatch_any _ k _ y0 y1 _ (by omega) l1 u1 (HR.out k (by omega))).mono ?_; rintro e w' ⟨rfl, rfl⟩)
          go_round
          case rel => exact ⟨k + 1, by omega, by go_num⟩
          case measure => simp [intOf]; omega
        · go_wp2
          go_ret
          exact ⟨rfl, (Below.refl _ _).alloc (Nat.le_refl _) _⟩
    · have hc1 := hc1 (by omega)
      have d2 : decide ((2 : Int) ≤ (n : Int)) = true := decide_eq_true (by omega)
      by_cases hm : y1 = 0
      · have HM : Hid (y1 = 0) := hm
        have tm : (y1 == 0) = true := by simp [hm]
        clear hm
        go_enter Try.func3, Try.ntmps3
        go_wp2_with (go_at_call 7; refine (bytes_ok _ _ _ _ (by omega)).mono ?_; rintro e w' ⟨rfl, rfl⟩)
        go_loop [6] (fun i => ∃ k : Nat, k ≤ n + 1 ∧ i = .int .i64 k) (fun i => n + 1 - (intOf i).toNat)
        case atStart => exact ⟨0, by omega, rfl⟩
        case round =>
          obtain ⟨k, hk, rfl⟩ := hrel
          by_cases hlt : k ≤ n
          · by_cases hd : 2 ≤ k
            · skip
              have hv : socks k y0 y1 = 2 := socks_zero k y0 y1 (by omega) HM.out
              go_wp2_with (go_at_call 8; refine (zzmatch_any _ k _ y0 y1 _ (by omega) l1 u1 (HR.out k (by omega))).mono ?_; rintro e w' ⟨rfl, rfl⟩)
              go_round
              case rel => exact ⟨k + 1, by omega, by go_num⟩
              case measure => simp [intOf]; omega
            · skip
              have hv : socks k y0 y1 = 0 := by rcases (show k = 0 ∨ k = 1 by omega) with rfl | rfl; exact socks_none y0 y1; exact socks_one y0 y1 HV.out
              go_wp2_with (go_at_call 8; refine (zzmatch_any _ k _ y0 y1 _ (by omega) l1 u1 (HR.out k (by omega))).mono ?_; rintro e w' ⟨rfl, rfl⟩)
              go_round
              case rel => exact ⟨k + 1, by omega, by go_num⟩
              case measure => simp [intOf]; omega
          · go_wp2
            go_ret
            exact ⟨rfl, (Below.refl _ _).alloc (Nat.le_refl _) _⟩
      · have HM : Hid (y1 ≠ 0) := hm
        have tm : (y1 == 0) = false := by simp [hm]
        clear hm
        by_cases hl : (n : Int) < 2 + y1
        · have d3 : decide (2 + y1 ≤ (n : Int)) = false := decide_eq_false (by omega)
          go_enter Try.func3, Try.ntmps3
          go_wp2_with (go_at_call 7; refine (bytes_ok _ _ _ _ (by omega)).mono ?_; rintro e w' ⟨rfl, rfl⟩)
          go_loop [6] (fun i => ∃ k : Nat, k ≤ n + 1 ∧ i = .int .i64 k) (fun i => n + 1 - (intOf i).toNat)
          case atStart => exact ⟨0, by omega, rfl⟩
          case round =>
            obtain ⟨k, hk, rfl⟩ := hrel
            by_cases hlt : k ≤ n
            · skip
              have hv : socks k y0 y1 = 0 := socks_short k y0 y1 HV.out HM.out (.inr (by omega))
              go_wp2_with (go_at_call 8; refine (zzmatch_any _ k _ y0 y1 _ (by omega) l1 u1 (HR.out k (by omega))).mono ?_; rintro e w' ⟨rfl, rfl⟩)
              go_round
              case rel => exact ⟨k + 1, by omega, by go_num⟩
              case measure => simp [intOf]; omega
            · go_wp2
              go_ret
              exact ⟨rfl, (Below.refl _ _).alloc (Nat.le_refl _) _⟩
        · have d3 : decide (2 + y1 ≤ (n : Int)) = true := decide_eq_true (by omega)
          go_enter Try.func3, Try.ntmps3
          go_wp2_with (go_at_call 7; refine (bytes_ok _ _ _ _ (by omega)).mono ?_; rintro e w' ⟨rfl, rfl⟩)
          go_loop [6] (fun i => ∃ k : Nat, k ≤ n + 1 ∧ i = .int .i64 k) (fun i => n + 1 - (intOf i).toNat)
          case atStart => exact ⟨0, by omega, rfl⟩
          case round =>
            obtain ⟨k, hk, rfl⟩ := hrel
            by_cases hlt : k ≤ n
            · by_cases hd : 2 + y1 ≤ k
              · skip
                have hv : socks k y0 y1 = 1 := socks_full k y0 y1 HV.out HM.out (by omega) (by omega)
                go_wp2_with (go_at_call 8; refine (zzmatch_any _ k _ y0 y1 _ (by omega) l1 u1 (HR.out k (by omega))).mono ?_; rintro e w' ⟨rfl, rfl⟩)
                go_round
                case rel => exact ⟨k + 1, by omega, by go_num⟩
                case measure => simp [intOf]; omega
              · skip
                have hv : socks k y0 y1 = 0 := socks_short k y0 y1 HV.out HM.out (.inr (by omega))
                go_wp2_with (go_at_call 8; refine (zzmatch_any _ k _ y0 y1 _ (by omega) l1 u1 (HR.out k (by omega))).mono ?_; rintro e w' ⟨rfl, rfl⟩)
                go_round
                case rel => exact ⟨k + 1, by omega, by go_num⟩
                case measure => simp [intOf]; omega
            · go_wp2
              go_ret
              exact ⟨rfl, (Below.refl _ _).alloc (Nat.le_refl _) _⟩
  · have tv : (y0 != 5) = true := by simp [hv0]
    go_enter Try.func3, Try.ntmps3
    go_wp2_with (go_at_call 7; refine (bytes_ok _ _ _ _ (by omega)).mono ?_; rintro e w' ⟨rfl, rfl⟩)
    go_loop [6] (fun i => ∃ k : Nat, k ≤ n + 1 ∧ i = .int .i64 k) (fun i => n + 1 - (intOf i).toNat)
    case atStart => exact ⟨0, by omega, rfl⟩
    case round =>
      obtain ⟨k, hk, rfl⟩ := hrel
      by_cases hlt : k ≤ n
      · by_cases hd : 1 ≤ k
        · skip
          have hv : socks k y0 y1 = 2 := socks_bad k y0 y1 (by omega) hv0
          go_wp2_with (go_at_call 8; refine (zzmatch_any _ k _ y0 y1 _ (by omega) l1 u1 (HR.out k (by omega))).mono ?_; rintro e w' ⟨rfl, rfl⟩)
          go_round
          case rel => exact ⟨k + 1, by omega, by go_num⟩
          case measure => simp [intOf]; omega
        · skip
          have hv : socks k y0 y1 = 0 := by rw [show k = 0 by omega]; exact socks_none y0 y1
          go_wp2_with (go_at_call 8; refine (zzmatch_any _ k _ y0 y1 _ (by omega) l1 u1 (HR.out k (by omega))).mono ?_; rintro e w' ⟨rfl, rfl⟩)
          go_round
          case rel => exact ⟨k + 1, by omega, by go_num⟩
          case measure => simp [intOf]; omega
      · go_wp2
        go_ret
        exact ⟨rfl, (Below.refl _ _).alloc (Nat.le_refl _) _⟩

set_option maxHeartbeats 800000 in
theorem walk (a0 : Option Addr) (len0 cap0 : Nat) (z0 : List Int) (w : World) (w0 : IsRow .u8 w a0 len0 cap0 z0) :
    Calls Try.prog 3 #[.slice a0 len0 cap0] w fun e w' => e = .returned (.bool true) ∧ Below w.heap.size w w' := by
  have hml : len0 ≤ 9223372036854775807 := by
    rcases w0 with ⟨_, rfl, _⟩ | ⟨x, _, h1, h2, _⟩
    · omega
    · unfold maxLen at h2; omega
  by_cases hb : 1048576 < len0
  · go_enter Try.func3, Try.ntmps3
    go_wp2_with (go_at_call 7; refine (bytes_no _ _ _ _ hb hml).mono ?_; rintro e w' ⟨rfl, rfl⟩)
    go_ret
    exact ⟨rfl, Below.refl _ _⟩
  by_cases hs : 65536 < len0
  · go_enter Try.func3, Try.ntmps3
    go_wp2_with (go_at_call 7; refine (bytes_ok _ _ _ _ (by omega)).mono ?_; rintro e w' ⟨rfl, rfl⟩)
    go_ret
    exact ⟨rfl, Below.refl _ _⟩
  have hneq := fun w a n c => run_neq_slice_nil_any (P := Try.prog) w 22 5 a n c 0 0 Try.underlying22
  rcases w0 with ⟨rfl, rfl, rfl, rfl⟩ | ⟨x, rfl, hlc, hcm, hzl, hcell, hwf⟩
  · go_enter Try.func3, Try.ntmps3
    go_wp2_with (go_at_call 7; refine (bytes_ok _ _ _ _ (by omega)).mono ?_; rintro e w' ⟨rfl, rfl⟩)
    refine wp_loop_rounds 2 ?_
    rw [rounds_succ]
    go_wp2_with (go_at_call 8; refine (zzmatch_any _ 0 _ 0 0 _ (by omega) (by omega) (by omega) (by omega)).mono ?_; rintro e w' ⟨rfl, rfl⟩)
    rw [rounds_succ]
    go_wp2
    go_ret
    exact ⟨rfl, Below.refl _ _⟩
  · obtain ⟨C, hCs, hCj, hcp⟩ := copied x len0 cap0 z0 w (by omega) hcell
    have hu8 : ∀ j, 0 ≤ z0.getD j 0 ∧ z0.getD j 0 ≤ 255 := fun j => by
      by_cases hj : j < z0.length
      · have := bounds_u8 (hwf (z0.getD j 0) (by simp [hj]))
        omega
      · simp [hj]
    have hmk := run_make_row' (P := Try.prog) 22 5 (.int .u8 0) 1 Try.underlying22 Try.info5 rfl .i64 .i64 len0 (by omega) (by omega)
    exact rest x len0 cap0 C (z0.getD 0 0) (z0.getD 1 0) w (by omega) (hCj 0) (hCj 1) (hu8 1).1 (hu8 1).2 hneq hmk hcp

/-! ### THE ROW's STEP: WRITTEN OUT: LEAVE IT -/
set_option maxRecDepth 100000 in
theorem lifted (os : Os) (started : os.Started) (H : Type) (enc : TypeId × Value → H) :
    ReturnsInHanded {} Try.checked os 3 .any (Rows.fnSOCKS5VerdictSettlesAtGreetingEndSpec.pre6 enc Try.prog Try.f3 Rows.fnSOCKS5VerdictSettlesAtGreetingEndRow.domain false) (Rows.fnSOCKS5VerdictSettlesAtGreetingEndSpec.post enc Try.prog Try.f3 false true false false) := by
  refine returnsInHanded_of_change (C := Try.checked) own started (by kernel_rfl) Try.func3
    (ChangeSpec.witness6 (enc := enc) (C := Try.checked) false ⟨#[], #[.slice none 0 0], []⟩ 8 (by kernel_rfl) (by kernel_rfl) (by kernel_rfl) (by kernel_rfl)) ?_
  intro W base args ds gs before hval0 hW hcnd _
  have hval : ∀ (j : Nat) t v, Try.f3.params[j]? = some t → args[j]? = some v → Value.okWide Try.prog W .any base t v := hval0
  have hW' := hW
  obtain ⟨p, q, hA0, hV, rfl, hfz, hnd⟩ := hW
  have hA : DataW.TrodAll enc Try.prog W 0 (fun _ => true) true Try.f3.params.toList args.toList ds p := hA0
  rw [Try.params3] at hA hval
  obtain ⟨v0, vs0, d0, ds0, p0, q0, hargs, rfl, rfl, h0, r0⟩ := trodAll_cons hA
  obtain ⟨rfl, rfl, rfl⟩ := trodAll_nil r0
  obtain rfl : args = #[v0] := by cases args; simp_all
  obtain ⟨rfl, rfl⟩ := trodVars_none hV
  obtain ⟨a0, len0, cap0, rfl⟩ := okWide_slice Try.underlying22 (hval 0 22 v0 rfl rfl)
  have k0 := h0
  have lt0 : ∀ x ∈ p0, x.block < W.heap.size := by obtain ⟨m, hm⟩ := k0; exact DataW.trod_lt m _ _ _ hm
  obtain ⟨z0, w0⟩ : ∃ zs, IsRow .u8 W a0 len0 cap0 zs := by
    obtain ⟨fuel, hf⟩ := h0
    rcases open_ints Try.underlying22 Try.underlying5 (by kernel_rfl) hf with ⟨hcs, _⟩ | ⟨x, l, c, zs, hcs, _, hl, hm, hz, _, hcell, hwz⟩
    · simp [Value.cells] at hcs
      obtain ⟨rfl, rfl, rfl⟩ := hcs
      exact ⟨[], .inl ⟨rfl, rfl, rfl, rfl⟩⟩
    · simp [Value.cells] at hcs
      obtain ⟨rfl, rfl, rfl⟩ := hcs
      exact ⟨zs, .inr ⟨_, rfl, hl, hm, by simpa using hz, hcell, hwz⟩⟩
  clear hA0 hval0
  refine (walk a0 len0 cap0 z0 W w0).mono fun e W' ⟨he, bel⟩ => ?_
  subst he
  exact ⟨_, rfl, _, _, _, [], _, [], hW', trodAll_mk1 (shut_bool Try.underlying4 _), (trodAll_cons_mk (Below.trod laidOut (by kernel_rfl) (of_decide_eq_true (by kernel_rfl)) k0 bel lt0) trodAll_mk0), rfl, bel.frame _, fun h => by cases h⟩

theorem over : Rows.fnSOCKS5VerdictSettlesAtGreetingEndRow.holds Try.pinned (OpenSpec.ofChange Rows.fnSOCKS5VerdictSettlesAtGreetingEndSpec) :=
  OpenClaim.holds_of_wide 3 Try.f3 rfl rfl rfl rfl rfl rfl rfl ⟨rfl, rfl, rfl, rfl, rfl⟩ rfl rfl rfl rfl rfl (by kernel_rfl) Try.func3 (by kernel_rfl)
    (of_decide_eq_true (by kernel_rfl)) (by unfold Func.isWrapper; first | (rw [if_pos (by decide +kernel)]; kernel_rfl) | (rw [if_neg (by decide +kernel)]; exact ⟨rfl, rfl⟩))
    (fun os started H enc _ => lifted os started H enc)

/-- THE STATEMENT -/
theorem proved : Rows.FnSOCKS5VerdictSettlesAtGreetingEndSaid := over
end Go.Proofs.Qxb6618072a.fnSOCKS5VerdictSettlesAtGreetingEnd

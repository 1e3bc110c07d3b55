/- seat b6618072a: the proof of Rows.FnArrivedStopsAtFirstRecordWithBytesSaid -/
import Derived.Test.Qxb6618072aRows
import Derived.Test.Qxb6618072aArrZero
import Derived.WalkKit
import Derived.ProofKit
import Derived.OpenShut
import Derived.ShutString
import Derived.ChangeOld
import Derived.Below
namespace Go.Proofs.Qxb6618072a.fnArrivedStopsAtFirstRecordWithBytes
open Go.ChangeShapes Go.WideShapes Go.ChangeAt Go.RowKit
open Go.ChangeMaps (open_string shut_string)
set_option linter.unusedVariables false

theorem own : ownKnob Try.prog.godebug = none := by kernel_rfl
theorem laidOut : laidOutB Try.prog = true := by kernel_rfl
theorem cells33 : Try.prog.cellsOf 33 = 8 := by kernel_rfl
theorem cells9 : Try.prog.cellsOf 9 = 1 := by kernel_rfl
theorem cells3 : Try.prog.cellsOf 3 = 1 := by kernel_rfl
theorem cells4 : Try.prog.cellsOf 4 = 1 := by kernel_rfl

def IsRow (k : IntKind) (w : World) (a : Option Addr) (len cap : Nat) (zs : List Int) : Prop :=
  (a = none ∧ len = 0 ∧ cap = 0 ∧ zs = []) ∨
  ∃ x, a = some x ∧ len ≤ cap ∧ cap ≤ maxLen ∧ zs.length = cap ∧ (∀ i, i < zs.length → w.cell? (x.add i) = some (.int k (zs.getD i 0))) ∧ ∀ n ∈ zs, (Lit.int k n).wf = true

theorem IsRow.lies {w : World} {a : Option Addr} {n c : Nat} {zs : List Int} (h : IsRow .u8 w a n c zs) : Lies w a n zs := by
  rcases h with ⟨rfl, rfl, rfl, rfl⟩ | ⟨x, rfl, hlc, hcm, hzl, hcell, hwf⟩
  · intro h; omega
  · intro h
    obtain ⟨b, off, rfl, hc⟩ := ints_at hcell (by omega)
    exact ⟨b, off, rfl, by have := World.block_lt_of_cell? _ _ (hc 0 (by omega)); simpa using this, fun j hj => hc j (by omega)⟩

theorem IsRow.bytes {w : World} {a : Option Addr} {n c : Nat} {zs : List Int} (h : IsRow .u8 w a n c zs) : ∀ j, 0 ≤ zs.getD j 0 ∧ zs.getD j 0 ≤ 255 := by
  rcases h with ⟨rfl, rfl, rfl, rfl⟩ | ⟨x, rfl, hlc, hcm, hzl, hcell, hwf⟩
  · intro j; simp
  · intro j
    by_cases hj : j < zs.length
    · have := bounds_u8 (hwf (zs.getD j 0) (by simp [hj])); omega
    · simp [hj]

theorem IsRow.none {w : World} {a : Option Addr} {n c : Nat} {zs : List Int} (h : IsRow .u8 w a n c zs) : a = .none → n = 0 ∧ c = 0 := by
  rcases h with ⟨rfl, rfl, rfl, rfl⟩ | ⟨x, rfl, hlc, hcm, hzl, hcell, hwf⟩
  · intro _; exact ⟨rfl, rfl⟩
  · intro h; simp at h

theorem IsRow.max {w : World} {a : Option Addr} {n c : Nat} {zs : List Int} (h : IsRow .u8 w a n c zs) : n ≤ 9223372036854775807 := by
  rcases h with ⟨rfl, rfl, rfl, rfl⟩ | ⟨x, rfl, hlc, hcm, hzl, hcell, hwf⟩
  · omega
  · unfold maxLen at hcm; omega

set_option maxHeartbeats 1600000 in
set_option maxRecDepth 100000 in
theorem walk (s : ByteArray) (p en fi ki ne va : Int) (ot : Bool) (nx lf vd : Int) (a : Option Addr) (n c : Nat) (zs : List Int) (w : World)
    (hs : s.size ≤ 9223372036854775807) (hrow : IsRow .u8 w a n c zs) :
    Calls Try.prog 6 #[.agg (restCells s p en fi ki ne va ot), .int .i64 nx, .int .i64 lf, .int .i64 vd, .slice a n c] w fun e w' => e = .returned (.bool true) ∧ Below w.heap.size w w' := by
  have hml := hrow.max
  have HR : Hid (IsRow .u8 w a n c zs) := hrow
  clear hrow
  by_cases hb : 1048576 < s.size + n
  · go_enter Try.func6, Try.ntmps6
    go_wp2_with (go_at_call 14; refine (bytes14_no s p en fi ki ne va ot _ _ _ _ _ _ _ hb hs hml).mono ?_; rintro e w' ⟨rfl, rfl⟩)
    go_ret
    exact ⟨rfl, ((Below.refl _ _).alloc (Nat.le_refl _) _).alloc (by simp) _⟩
  have hb' : s.size + n ≤ 1048576 := by omega
  by_cases c1 : 524288 < n
  · go_enter Try.func6, Try.ntmps6
    go_wp2_with (go_at_call 14; refine (bytes14_ok s p en fi ki ne va ot _ _ _ _ _ _ _ hb').mono ?_; rintro e w' ⟨rfl, rfl⟩)
    go_ret
    exact ⟨rfl, ((Below.refl _ _).alloc (Nat.le_refl _) _).alloc (by simp) _⟩
  by_cases c2 : 524288 < s.size
  · go_enter Try.func6, Try.ntmps6
    go_wp2_with (go_at_call 14; refine (bytes14_ok s p en fi ki ne va ot _ _ _ _ _ _ _ hb').mono ?_; rintro e w' ⟨rfl, rfl⟩)
    go_ret
    exact ⟨rfl, ((Below.refl _ _).alloc (Nat.le_refl _) _).alloc (by simp) _⟩
  by_cases c3 : nx < 0
  · go_enter Try.func6, Try.ntmps6
    go_wp2_with (go_at_call 14; refine (bytes14_ok s p en fi ki ne va ot _ _ _ _ _ _ _ hb').mono ?_; rintro e w' ⟨rfl, rfl⟩)
    go_ret
    exact ⟨rfl, ((Below.refl _ _).alloc (Nat.le_refl _) _).alloc (by simp) _⟩
  by_cases c4 : 1048576 < nx
  · go_enter Try.func6, Try.ntmps6
    go_wp2_with (go_at_call 14; refine (bytes14_ok s p en fi ki ne va ot _ _ _ _ _ _ _ hb').mono ?_; rintro e w' ⟨rfl, rfl⟩)
    go_ret
    exact ⟨rfl, ((Below.refl _ _).alloc (Nat.le_refl _) _).alloc (by simp) _⟩
  by_cases c5 : lf < 0
  · go_enter Try.func6, Try.ntmps6
    go_wp2_with (go_at_call 14; refine (bytes14_ok s p en fi ki ne va ot _ _ _ _ _ _ _ hb').mono ?_; rintro e w' ⟨rfl, rfl⟩)
    go_ret
    exact ⟨rfl, ((Below.refl _ _).alloc (Nat.le_refl _) _).alloc (by simp) _⟩
  by_cases c6 : 1073741824 < lf
  · go_enter Try.func6, Try.ntmps6
    go_wp2_with (go_at_call 14; refine (bytes14_ok s p en fi ki ne va ot _ _ _ _ _ _ _ hb').mono ?_; rintro e w' ⟨rfl, rfl⟩)
    go_ret
    exact ⟨rfl, ((Below.refl _ _).alloc (Nat.le_refl _) _).alloc (by simp) _⟩
  by_cases l0 : lf = 0
  · subst l0
    obtain ⟨q, rfl⟩ := Int.eq_ofNat_of_zero_le (show 0 ≤ nx by omega)
    exact arr_zero s p en fi ki ne va ot q vd a n c zs w hb' (by omega) (by omega) (by omega) HR.out.bytes HR.out.lies HR.out.none
  have lp : 0 < lf := by omega
  by_cases c7 : (n : Int) < nx
  · go_enter Try.func6, Try.ntmps6
    go_wp2_with (go_at_call 14; refine (bytes14_ok s p en fi ki ne va ot _ _ _ _ _ _ _ hb').mono ?_; rintro e w' ⟨rfl, rfl⟩)
    go_ret
    exact ⟨rfl, ((Below.refl _ _).alloc (Nat.le_refl _) _).alloc (by simp) _⟩
  obtain ⟨q, rfl⟩ := Int.eq_ofNat_of_zero_le (show 0 ≤ nx by omega)
  exact arr_pos s p en fi ki ne va ot q lf vd a n c zs w hb' (by omega) (by omega) (by omega) lp (by omega) (by omega) HR.out.bytes HR.out.lies HR.out.none

/-! ### the struct argument, opened -/
theorem array8 {α : Type} {cs : Array α} (h : cs.size = 8) : ∃ c0 c1 c2 c3 c4 c5 c6 c7, cs = #[c0, c1, c2, c3, c4, c5, c6, c7] := by
  obtain ⟨l⟩ := cs
  match l, h with
  | [c0, c1, c2, c3, c4, c5, c6, c7], _ => exact ⟨c0, c1, c2, c3, c4, c5, c6, c7, rfl⟩

theorem open_rest {H : Type} {enc : TypeId × Value → H} {w : World} {base b0 : Nat} {spare : Nat → Bool} {held : Bool} {r : Reach} {v : Value} {d : DataW H} {p : List MemPlace}
    (hv : Value.okWide Try.prog w r b0 33 v) (h : DataW.Trod enc Try.prog w base spare held 33 v d p) :
    ∃ (s : ByteArray) (pp en fi ki ne va : Int) (ot : Bool), v = .agg (restCells s pp en fi ki ne va ot) ∧ s.size ≤ 9223372036854775807 := by
  obtain ⟨cs, rfl, hsz⟩ := okWide_struct Try.underlying33 hv
  obtain ⟨c0, c1, c2, c3, c4, c5, c6, c7, rfl⟩ := array8 (hsz.trans cells33)
  obtain ⟨fuel, hf⟩ := h
  obtain ⟨xs, n, _, _, _, hlen, hfl⟩ := DataW.trod_struct Try.underlying33 hf
  have g : ∀ i, i < 8 → ∃ y, xs[i]? = some y := fun i hi => ⟨xs[i]'(by rw [hlen]; exact hi), by simp⟩
  obtain ⟨y0, g0⟩ := g 0 (by omega)
  obtain ⟨y1, g1⟩ := g 1 (by omega)
  obtain ⟨y2, g2⟩ := g 2 (by omega)
  obtain ⟨y3, g3⟩ := g 3 (by omega)
  obtain ⟨y4, g4⟩ := g 4 (by omega)
  obtain ⟨y5, g5⟩ := g 5 (by omega)
  obtain ⟨y6, g6⟩ := g 6 (by omega)
  obtain ⟨y7, g7⟩ := g 7 (by omega)
  have f0 := (hfl 0 _ rfl).trans g0
  have f1 := (hfl 1 _ rfl).trans g1
  have f2 := (hfl 2 _ rfl).trans g2
  have f3 := (hfl 3 _ rfl).trans g3
  have f4 := (hfl 4 _ rfl).trans g4
  have f5 := (hfl 5 _ rfl).trans g5
  have f6 := (hfl 6 _ rfl).trans g6
  have f7 := (hfl 7 _ rfl).trans g7
  obtain ⟨s, e0, _, hs⟩ := DataW.trod_string Try.underlying9 f0
  obtain ⟨a1, e1, _, _⟩ := DataW.trod_int Try.underlying3 f1
  obtain ⟨a2, e2, _, _⟩ := DataW.trod_int Try.underlying3 f2
  obtain ⟨a3, e3, _, _⟩ := DataW.trod_int Try.underlying3 f3
  obtain ⟨a4, e4, _, _⟩ := DataW.trod_int Try.underlying3 f4
  obtain ⟨a5, e5, _, _⟩ := DataW.trod_int Try.underlying3 f5
  obtain ⟨a6, e6, _, _⟩ := DataW.trod_int Try.underlying3 f6
  obtain ⟨a7, e7, _⟩ := DataW.trod_bool Try.underlying4 f7
  simp [Value.cells, cells9] at e0
  simp [Value.cells, cells3] at e1 e2 e3 e4 e5 e6
  simp [Value.cells, cells4] at e7
  subst e0 e1 e2 e3 e4 e5 e6 e7
  exact ⟨s, a1, a2, a3, a4, a5, a6, a7, rfl, by unfold maxLen at hs; omega⟩

/-! ### THE ROW's STEP: WRITTEN OUT: LEAVE IT -/
set_option maxRecDepth 100000 in
theorem lifted (os : Os) (started : os.Started) (H : Type) (enc : TypeId × Value → H) :
    ReturnsInHanded {} Try.checked os 6 .any (Rows.fnArrivedStopsAtFirstRecordWithBytesSpec.pre6 enc Try.prog Try.f6 Rows.fnArrivedStopsAtFirstRecordWithBytesRow.domain false) (Rows.fnArrivedStopsAtFirstRecordWithBytesSpec.post enc Try.prog Try.f6 false true false false) := by
  refine returnsInHanded_of_change (C := Try.checked) own started (by kernel_rfl) Try.func6
    (ChangeSpec.witness6 (enc := enc) (C := Try.checked) false ⟨#[], #[.agg #[.string ByteArray.empty, .int .i64 0, .int .i64 0, .int .i64 0, .int .i64 0, .int .i64 0, .int .i64 0, .bool false], .int .i64 0, .int .i64 0, .int .i64 0, .slice none 0 0], []⟩ 8 (by kernel_rfl) (by kernel_rfl) (by kernel_rfl) (by kernel_rfl)) ?_
  intro W base args ds gs before hval0 hW hcnd _
  have hval : ∀ (j : Nat) t v, Try.f6.params[j]? = some t → args[j]? = some v → Value.okWide Try.prog W .any base t v := hval0
  have hW' := hW
  obtain ⟨p, q, hA0, hV, rfl, hfz, hnd⟩ := hW
  have hA : DataW.TrodAll enc Try.prog W 0 (fun _ => true) true Try.f6.params.toList args.toList ds p := hA0
  rw [Try.params6] at hA hval
  obtain ⟨v0, vs0, d0, ds0, p0, q0, hargs, rfl, rfl, h0, r0⟩ := trodAll_cons hA
  obtain ⟨v1, vs1, d1, ds1, p1, q1, rfl, rfl, rfl, h1, r1⟩ := trodAll_cons r0
  obtain ⟨v2, vs2, d2, ds2, p2, q2, rfl, rfl, rfl, h2, r2⟩ := trodAll_cons r1
  obtain ⟨v3, vs3, d3, ds3, p3, q3, rfl, rfl, rfl, h3, r3⟩ := trodAll_cons r2
  obtain ⟨v4, vs4, d4, ds4, p4, q4, rfl, rfl, rfl, h4, r4⟩ := trodAll_cons r3
  obtain ⟨rfl, rfl, rfl⟩ := trodAll_nil r4
  obtain rfl : args = #[v0, v1, v2, v3, v4] := by cases args; simp_all
  obtain ⟨rfl, rfl⟩ := trodVars_none hV
  have k0 := h0
  have k4 := h4
  have lt0 : ∀ x ∈ p0, x.block < W.heap.size := by obtain ⟨m, hm⟩ := k0; exact DataW.trod_lt m _ _ _ hm
  have lt4 : ∀ x ∈ p4, x.block < W.heap.size := by obtain ⟨m, hm⟩ := k4; exact DataW.trod_lt m _ _ _ hm
  obtain ⟨s, pp, en, fi, ki, ne, va, ot, rfl, hs⟩ := open_rest (hval 0 33 v0 rfl rfl) h0
  obtain ⟨a1, rfl, rfl, rfl, w1⟩ := open_int Try.underlying3 (hval 1 3 v1 rfl rfl) h1
  obtain ⟨a2, rfl, rfl, rfl, w2⟩ := open_int Try.underlying3 (hval 2 3 v2 rfl rfl) h2
  obtain ⟨a3, rfl, rfl, rfl, w3⟩ := open_int Try.underlying3 (hval 3 3 v3 rfl rfl) h3
  obtain ⟨a4, len4, cap4, rfl⟩ := okWide_slice Try.underlying22 (hval 4 22 v4 rfl rfl)
  obtain ⟨z4, w4⟩ : ∃ zs, IsRow .u8 W a4 len4 cap4 zs := by
    obtain ⟨fuel, hf⟩ := h4
    rcases open_ints Try.underlying22 Try.underlying5 (by kernel_rfl) hf with ⟨hcs, _⟩ | ⟨x, l, c, zs, hcs, _, hl, hm, hz, _, hcell, hwz⟩
    · simp [Value.cells] at hcs
      obtain ⟨rfl, rfl, rfl⟩ := hcs
      exact ⟨[], .inl ⟨rfl, rfl, rfl, rfl⟩⟩
    · simp [Value.cells] at hcs
      obtain ⟨rfl, rfl, rfl⟩ := hcs
      exact ⟨zs, .inr ⟨_, rfl, hl, hm, by simpa using hz, hcell, hwz⟩⟩
  clear hA0 hval0
  refine (walk s pp en fi ki ne va ot a1 a2 a3 a4 len4 cap4 z4 W hs w4).mono fun e W' ⟨he, bel⟩ => ?_
  subst he
  exact ⟨_, rfl, _, _, _, [], _, [], hW', trodAll_mk1 (shut_bool Try.underlying4 _), (trodAll_cons_mk (Below.trod laidOut (by kernel_rfl) (of_decide_eq_true (by kernel_rfl)) k0 bel lt0) (trodAll_cons_mk (shut_int Try.underlying3 w1) (trodAll_cons_mk (shut_int Try.underlying3 w2) (trodAll_cons_mk (shut_int Try.underlying3 w3) (trodAll_cons_mk (Below.trod laidOut (by kernel_rfl) (of_decide_eq_true (by kernel_rfl)) k4 bel lt4) trodAll_mk0))))), rfl, bel.frame _, fun h => by cases h⟩

theorem over : Rows.fnArrivedStopsAtFirstRecordWithBytesRow.holds Try.pinned (OpenSpec.ofChange Rows.fnArrivedStopsAtFirstRecordWithBytesSpec) :=
  OpenClaim.holds_of_wide 6 Try.f6 rfl rfl rfl rfl rfl rfl rfl ⟨rfl, rfl, rfl, rfl, rfl⟩ rfl rfl rfl rfl rfl (by kernel_rfl) Try.func6 (by kernel_rfl)
    (of_decide_eq_true (by kernel_rfl)) (by unfold Func.isWrapper; first | (rw [if_pos (by decide +kernel)]; kernel_rfl) | (rw [if_neg (by decide +kernel)]; exact ⟨rfl, rfl⟩))
    (fun os started H enc _ => lifted os started H enc)

/-- THE STATEMENT -/
theorem proved : Rows.FnArrivedStopsAtFirstRecordWithBytesSaid := over
end Go.Proofs.Qxb6618072a.fnArrivedStopsAtFirstRecordWithBytes

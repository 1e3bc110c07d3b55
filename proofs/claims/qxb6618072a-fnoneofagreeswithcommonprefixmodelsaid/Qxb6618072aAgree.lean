/- seat b6618072a: the walk of the law FnOneOfAgreesWithCommonPrefixModel -/
import Derived.Test.Qxb6618072aOneOf
import Derived.Test.Qxb6618072aCommon
import Derived.Test.Qxb6618072aCopy
import Derived.WalkKit
import Derived.WalkSpells
import Derived.Deep.OwnRows
import Derived.Deep.Draws
namespace Go.Proofs.Qxb6618072a
open Go.RowKit

theorem ret_true {b : Bool} (h : b = true) : Ending.returned (.bool b) = .returned (.bool true) := by rw [h]

set_option maxHeartbeats 3200000 in
set_option maxRecDepth 100000 in
theorem agree_nil (m d : Nat) (a2 : Option Addr) (vs : List Value) (Ls : List (List Int)) (w : World)
    (hm0 : m ≤ 9223372036854775807) (hm : vs.length = m) (h2 : RowsIn w a2 vs Ls) :
    Calls Try.prog 4 #[.slice none 0 0, .slice a2 m d] w fun e w' => e = .returned (.bool true) ∧ Below w.heap.size w w' := by
  obtain ⟨xs, hxs⟩ : ∃ xs : List Int, xs = [] := ⟨_, rfl⟩
  have HX : Hid (xs.length = 0) := by show _ = _; rw [hxs]; rfl
  have HBx : Hid (Bts xs) := by rw [hxs]; intro z hz; simp at hz
  have HF : Hid (Lies w none 0 xs) := fun h => by omega
  clear hxs
  have H2 : Hid (RowsIn w a2 vs Ls) := h2
  have HM : Hid (vs.length = m) := hm
  have hneq := fun w a n c => run_neq_slice_nil_any (P := Try.prog) w 22 5 a n c 0 0 Try.underlying22
  go_enter Try.func4, Try.ntmps4
  go_wp2_with fail
  refine (bytes9_any none a2 0 0 m d vs Ls w (by omega) hm0 hm h2).mono ?_
  rintro e w' ⟨r, rfl, hr, hw⟩
  obtain rfl := hw.symm
  clear hw
  cases r with
  | false =>
    clear h2 hm
    go_wp2
    go_ret
    exact ⟨rfl, Below.refl _ _⟩
  | true =>
    obtain ⟨hn1, hm1, hb⟩ := hr rfl
    have HB : Hid (∀ i, i < m → (Ls.getD i []).length ≤ 1048576) := hb
    clear h2 hm hb hr
    go_wp2
    go_loop [6, 7] (fun z i => ∃ (k : Nat) (t : Int), k ≤ m ∧ i = .int .i64 k ∧ z = .int .i64 t ∧ 0 ≤ t ∧ t ≤ 1048576) (fun _ i => m - (intOf i).toNat)
    case atStart => exact ⟨0, 0, by omega, rfl, rfl, by omega, by omega⟩
    case round =>
      obtain ⟨k, t, hk, rfl, rfl, t0, t1⟩ := hrel
      by_cases hlt : k < m
      · obtain ⟨b, off, rfl, hb, hcells⟩ := H2.out.2.2 (by have := HM.out; omega)
        have hck := hcells k (by have := HM.out; omega)
        obtain ⟨ak, ck, e1, e2, e3, e4, e5⟩ := H2.out.2.1 k (by have := HM.out; omega)
        have e6 := HB.out k hlt
        rw [e1] at hck
        clear hcells e1 e4 e5
        generalize (Ls.getD k []).length = q at *
        by_cases d2 : 1048576 < t + (24 + q)
        · go_wp2
          go_ret
          exact ⟨rfl, Below.refl _ _⟩
        · go_wp2
          go_round
          case rel => exact ⟨k + 1, t + (24 + q), by omega, by go_num, rfl, by omega, by omega⟩
          case measure => simp [intOf]; omega
      · go_wp2
        clear hk t0 t1
        go_loopw [8, 9] (fun v i wr => ∃ k : Nat, k ≤ m ∧ i = .int .i64 k ∧ v = .int .i64 (one xs (Ls.take k)) ∧ Hid (Lies wr none 0 xs) ∧ Hid (RowsIn wr a2 vs Ls) ∧ Hid (Below w.heap.size w wr)) (fun _ i _ => m - (intOf i).toNat)
        case atStart => exact ⟨0, by omega, rfl, rfl, HF.out, H2.out, Below.refl _ _⟩
        case round =>
          obtain ⟨j, hj, rfl, rfl, J1, J2, J3⟩ := hrel
          by_cases hjm : j < m
          · obtain ⟨b, off, rfl, hb, hcells⟩ := J2.out.2.2 (by have := HM.out; omega)
            have hck := hcells j (by have := HM.out; omega)
            obtain ⟨ak, ck, e1, e2, e3, e4, e5⟩ := J2.out.2.1 j (by have := HM.out; omega)
            rw [e1] at hck
            have HS : Hid (one xs (Ls.take (j + 1)) = best (one xs (Ls.take j)) (mp xs (Ls.getD j []))) := one_snoc xs Ls j (by have h1 := J2.out.1; have := HM.out; omega)
            have cc := common_any none ak 0 0 (Ls.getD j []).length ck xs (Ls.getD j []) wr HX.out rfl (by omega) e3 J1.out e4
            have V1 := one_vals xs (Ls.take j)
            have HQ : Hid ((Ls.getD j []).length = (Ls.getD j []).length) := rfl
            clear hcells e1 e4 e5 HQ
            generalize hL : Ls.getD j [] = L at *
            generalize one xs (Ls.take j) = o at *
            clear hL
            go_wp2_with fail
            refine cc.mono ?_
            rintro e w2 ⟨l, rfl, hcl, qd, rfl⟩
            have hmp := cl_mp hcl
            have hl1 := hcl.1
            have hl2 := hcl.2.1
            have hxl := HX.out
            have HMP : Hid (mp xs L = if l = L.length then 1 else if l = xs.length then 0 else 2) := hmp
            rw [hxl] at hl1
            clear hmp cc hcl hxl
            generalize hq : L.length = q at *
            have HQ : Hid (L.length = q) := hq
            clear hq
            have BD : Below wr.heap.size wr (wr.drewN qd) := ⟨rfl, rfl, rfl, Nat.le_refl _, fun _ _ => rfl⟩
            have HBD : Hid (Below wr.heap.size wr (wr.drewN qd)) := BD
            clear BD
            by_cases f1 : l = q
            · have t1 : ((l : Int) == (q : Int)) = true := by simp [f1]
              have HV : Hid (mp xs L = 1) := by have := HMP.out; rw [if_pos f1] at this; exact this
              clear f1
              go_wp2_with (go_at_call 11; refine (best_any o 1 V1 (by decide) _).mono ?_; rintro e w1 ⟨rfl, hw⟩; obtain rfl := hw.symm; clear hw)
              go_roundw
              case rel => exact ⟨j + 1, by omega, by go_num, by rw [HS.out, HV.out], J1.out.below HBD.out, J2.out.below HBD.out, J3.out.trans (HBD.out.mono (J3.out.size))⟩
              case measure => simp [intOf]; omega
            · by_cases f2 : l = 0
              · have t1 : ((l : Int) == (q : Int)) = false := by simp; omega
                have t2 : ((l : Int) == (0 : Int)) = true := by simp [f2]
                have HV : Hid (mp xs L = 0) := by have h := HMP.out; rw [if_neg f1, HX.out, if_pos f2] at h; exact h
                clear f1 f2
                go_wp2_with (go_at_call 11; refine (best_any o 0 V1 (by decide) _).mono ?_; rintro e w1 ⟨rfl, hw⟩; obtain rfl := hw.symm; clear hw)
                go_roundw
                case rel => exact ⟨j + 1, by omega, by go_num, by rw [HS.out, HV.out], J1.out.below HBD.out, J2.out.below HBD.out, J3.out.trans (HBD.out.mono (J3.out.size))⟩
                case measure => simp [intOf]; omega
              · have t1 : ((l : Int) == (q : Int)) = false := by simp; omega
                have t2 : ((l : Int) == (0 : Int)) = false := by simp; omega
                have HV : Hid (mp xs L = 2) := by have h := HMP.out; rw [if_neg f1, HX.out, if_neg f2] at h; exact h
                clear f1 f2
                go_wp2_with (go_at_call 11; refine (best_any o 2 V1 (by decide) _).mono ?_; rintro e w1 ⟨rfl, hw⟩; obtain rfl := hw.symm; clear hw)
                go_roundw
                case rel => exact ⟨j + 1, by omega, by go_num, by rw [HS.out, HV.out], J1.out.below HBD.out, J2.out.below HBD.out, J3.out.trans (HBD.out.mono (J3.out.size))⟩
                case measure => simp [intOf]; omega
          · have he : Ls.take j = Ls := List.take_of_length_le (by have h1 := J2.out.1; have := HM.out; omega)
            rw [he]
            have cm := zzOneOf_any none a2 0 0 m d xs vs Ls wr HX.out (by omega) (by omega) HM.out (by omega) J1.out HBx.out J2.out
            generalize one xs Ls = o at *
            clear he
            go_wp2_with (go_at_call 12; refine cm.mono ?_; rintro e w1 ⟨rfl, hw⟩; obtain rfl := hw.symm; clear hw)
            go_ret
            exact ⟨ret_true (by simp), J3.out⟩

set_option maxHeartbeats 3200000 in
set_option maxRecDepth 100000 in
theorem agree_some (x0 : Addr) (n c m d : Nat) (a2 : Option Addr) (zs : List Int) (vs : List Value) (Ls : List (List Int)) (w : World)
    (hn0 : n ≤ 9223372036854775807) (hnz : n ≤ zs.length) (hcell : ∀ i, i < zs.length → w.cell? (x0.add i) = some (.int .u8 (zs.getD i 0))) (hbz : ∀ z ∈ zs, 0 ≤ z ∧ z ≤ 255)
    (hm0 : m ≤ 9223372036854775807) (hm : vs.length = m) (h2 : RowsIn w a2 vs Ls) :
    Calls Try.prog 4 #[.slice (some x0) n c, .slice a2 m d] w fun e w' => e = .returned (.bool true) ∧ Below w.heap.size w w' := by
  have HM : Hid (vs.length = m) := hm
  have hneq := fun w a n c => run_neq_slice_nil_any (P := Try.prog) w 22 5 a n c 0 0 Try.underlying22
  have HZ : Hid (∀ i, i < zs.length → w.cell? (x0.add i) = some (.int .u8 (zs.getD i 0))) := hcell
  have HZB : Hid (∀ z ∈ zs, 0 ≤ z ∧ z ≤ 255) := hbz
  have H2w : Hid (RowsIn w a2 vs Ls) := h2
  clear hcell hbz
  go_enter Try.func4, Try.ntmps4
  go_wp2_with fail
  refine (bytes9_any (some x0) a2 n c m d vs Ls w hn0 hm0 hm h2).mono ?_
  rintro e w' ⟨r, rfl, hr, hw⟩
  obtain rfl := hw.symm
  clear hw
  cases r with
  | false =>
    clear h2 hm
    go_wp2
    go_ret
    exact ⟨rfl, Below.refl _ _⟩
  | true =>
    obtain ⟨hn1, hm1, hb⟩ := hr rfl
    have HB : Hid (∀ i, i < m → (Ls.getD i []).length ≤ 1048576) := hb
    clear h2 hm hb hr
    obtain ⟨C, hCs, hCj, hcp⟩ := copied x0 n c zs w hnz HZ.out
    have hmk := run_make_row' (P := Try.prog) 22 5 (.int .u8 0) 1 Try.underlying22 Try.info5 rfl .i64 .i64 n (by omega) (by omega)
    obtain ⟨xs, hxs⟩ : ∃ xs : List Int, xs = zs.take n := ⟨_, rfl⟩
    have HX : Hid (xs.length = n) := by show _ = _; rw [hxs, List.length_take]; omega
    have HBx : Hid (Bts xs) := by rw [hxs]; intro z hz; exact HZB.out z (List.mem_of_mem_take hz)
    have HF : Hid (Lies (w.alloc (.cells C 5)) (some ⟨w.heap.size, 0, none⟩) n xs) := fun h => ⟨w.heap.size, 0, rfl, by simp, fun j hj => by
      rw [World.cell?_alloc_new, Nat.zero_add, hCj j hj, hxs]; simp [hj]⟩
    have H2 : Hid (RowsIn (w.alloc (.cells C 5)) a2 vs Ls) := H2w.out.below ((Below.refl _ _).alloc (Nat.le_refl _) _)
    have HBW : Hid (Below w.heap.size w (w.alloc (.cells C 5))) := (Below.refl _ _).alloc (Nat.le_refl _) _
    clear hxs HZ HZB H2w hCj hCs
    go_wp2_with fail
    clear hcp hmk
    generalize w.alloc (.cells C 5) = W at *
    go_loop [6, 7] (fun z i => ∃ (k : Nat) (t : Int), k ≤ m ∧ i = .int .i64 k ∧ z = .int .i64 t ∧ 0 ≤ t ∧ t ≤ 1048576) (fun _ i => m - (intOf i).toNat)
    case atStart => exact ⟨0, n, by omega, rfl, rfl, by omega, by omega⟩
    case round =>
      obtain ⟨k, t, hk, rfl, rfl, t0, t1⟩ := hrel
      by_cases hlt : k < m
      · obtain ⟨b, off, rfl, hb, hcells⟩ := H2.out.2.2 (by have := HM.out; omega)
        have hck := hcells k (by have := HM.out; omega)
        obtain ⟨ak, ck, e1, e2, e3, e4, e5⟩ := H2.out.2.1 k (by have := HM.out; omega)
        have e6 := HB.out k hlt
        rw [e1] at hck
        clear hcells e1 e4 e5
        generalize (Ls.getD k []).length = q at *
        by_cases d2 : 1048576 < t + (24 + q)
        · go_wp2
          go_ret
          exact ⟨rfl, HBW.out⟩
        · go_wp2
          go_round
          case rel => exact ⟨k + 1, t + (24 + q), by omega, by go_num, rfl, by omega, by omega⟩
          case measure => simp [intOf]; omega
      · go_wp2
        clear hk t0 t1
        go_loopw [8, 9] (fun v i wr => ∃ k : Nat, k ≤ m ∧ i = .int .i64 k ∧ v = .int .i64 (one xs (Ls.take k)) ∧ Hid (Lies wr (some ⟨w.heap.size, 0, none⟩) n xs) ∧ Hid (RowsIn wr a2 vs Ls) ∧ Hid (Below w.heap.size w wr)) (fun _ i _ => m - (intOf i).toNat)
        case atStart => exact ⟨0, by omega, rfl, rfl, HF.out, H2.out, HBW.out⟩
        case round =>
          obtain ⟨j, hj, rfl, rfl, J1, J2, J3⟩ := hrel
          by_cases hjm : j < m
          · obtain ⟨b, off, rfl, hb, hcells⟩ := J2.out.2.2 (by have := HM.out; omega)
            have hck := hcells j (by have := HM.out; omega)
            obtain ⟨ak, ck, e1, e2, e3, e4, e5⟩ := J2.out.2.1 j (by have := HM.out; omega)
            rw [e1] at hck
            have HS : Hid (one xs (Ls.take (j + 1)) = best (one xs (Ls.take j)) (mp xs (Ls.getD j []))) := one_snoc xs Ls j (by have h1 := J2.out.1; have := HM.out; omega)
            have cc := common_any (some ⟨w.heap.size, 0, none⟩) ak n n (Ls.getD j []).length ck xs (Ls.getD j []) wr HX.out rfl (by omega) e3 J1.out e4
            have V1 := one_vals xs (Ls.take j)
            have HQ : Hid ((Ls.getD j []).length = (Ls.getD j []).length) := rfl
            clear hcells e1 e4 e5 HQ
            generalize hL : Ls.getD j [] = L at *
            generalize one xs (Ls.take j) = o at *
            clear hL
            go_wp2_with fail
            refine cc.mono ?_
            rintro e w2 ⟨l, rfl, hcl, qd, rfl⟩
            have hmp := cl_mp hcl
            have hl1 := hcl.1
            have hl2 := hcl.2.1
            have hxl := HX.out
            have HMP : Hid (mp xs L = if l = L.length then 1 else if l = xs.length then 0 else 2) := hmp
            rw [hxl] at hl1
            clear hmp cc hcl hxl
            generalize hq : L.length = q at *
            have HQ : Hid (L.length = q) := hq
            clear hq
            have BD : Below wr.heap.size wr (wr.drewN qd) := ⟨rfl, rfl, rfl, Nat.le_refl _, fun _ _ => rfl⟩
            have HBD : Hid (Below wr.heap.size wr (wr.drewN qd)) := BD
            clear BD
            by_cases f1 : l = q
            · have t1 : ((l : Int) == (q : Int)) = true := by simp [f1]
              have HV : Hid (mp xs L = 1) := by have := HMP.out; rw [if_pos f1] at this; exact this
              clear f1
              go_wp2_with (go_at_call 11; refine (best_any o 1 V1 (by decide) _).mono ?_; rintro e w1 ⟨rfl, hw⟩; obtain rfl := hw.symm; clear hw)
              go_roundw
              case rel => exact ⟨j + 1, by omega, by go_num, by rw [HS.out, HV.out], J1.out.below HBD.out, J2.out.below HBD.out, J3.out.trans (HBD.out.mono (J3.out.size))⟩
              case measure => simp [intOf]; omega
            · by_cases f2 : l = n
              · have t1 : ((l : Int) == (q : Int)) = false := by simp; omega
                have t2 : ((l : Int) == (n : Int)) = true := by simp [f2]
                have HV : Hid (mp xs L = 0) := by have h := HMP.out; rw [if_neg f1, HX.out, if_pos f2] at h; exact h
                clear f1 f2
                go_wp2_with (go_at_call 11; refine (best_any o 0 V1 (by decide) _).mono ?_; rintro e w1 ⟨rfl, hw⟩; obtain rfl := hw.symm; clear hw)
                go_roundw
                case rel => exact ⟨j + 1, by omega, by go_num, by rw [HS.out, HV.out], J1.out.below HBD.out, J2.out.below HBD.out, J3.out.trans (HBD.out.mono (J3.out.size))⟩
                case measure => simp [intOf]; omega
              · have t1 : ((l : Int) == (q : Int)) = false := by simp; omega
                have t2 : ((l : Int) == (n : Int)) = false := by simp; omega
                have HV : Hid (mp xs L = 2) := by have h := HMP.out; rw [if_neg f1, HX.out, if_neg f2] at h; exact h
                clear f1 f2
                go_wp2_with (go_at_call 11; refine (best_any o 2 V1 (by decide) _).mono ?_; rintro e w1 ⟨rfl, hw⟩; obtain rfl := hw.symm; clear hw)
                go_roundw
                case rel => exact ⟨j + 1, by omega, by go_num, by rw [HS.out, HV.out], J1.out.below HBD.out, J2.out.below HBD.out, J3.out.trans (HBD.out.mono (J3.out.size))⟩
                case measure => simp [intOf]; omega
          · have he : Ls.take j = Ls := List.take_of_length_le (by have h1 := J2.out.1; have := HM.out; omega)
            rw [he]
            have cm := zzOneOf_any (some ⟨w.heap.size, 0, none⟩) a2 n n m d xs vs Ls wr HX.out (by omega) (by omega) HM.out (by omega) J1.out HBx.out J2.out
            generalize one xs Ls = o at *
            clear he
            go_wp2_with (go_at_call 12; refine cm.mono ?_; rintro e w1 ⟨rfl, hw⟩; obtain rfl := hw.symm; clear hw)
            go_ret
            exact ⟨ret_true (by simp), J3.out⟩

end Go.Proofs.Qxb6618072a

/- seat b6618072a: the walk of the law FnOneOfSplitsInsertsAndExtends -/
import Derived.Test.Qxb6618072aOneOf
import Derived.Test.Qxb6618072aCopy
import Derived.WalkKit
import Derived.WalkSpells
import Derived.Deep.OwnRows
namespace Go.Proofs.Qxb6618072a
open Go.RowKit

theorem Try.info22 : (Try.prog.info? 22).map (fun i => (i.zero, i.size, i.bytes)) = some (some (.slice none 0 0), 1, 24) := by kernel_rfl

theorem RowsIn.take {w : World} {a : Option Addr} {vs : List Value} {Ls : List (List Int)} (h : RowsIn w a vs Ls) (k : Nat) : RowsIn w a (vs.take k) (Ls.take k) := by
  obtain ⟨h1, h2, h3⟩ := h
  refine ⟨by simp [h1], fun i hi => ?_, fun h0 => ?_⟩
  · simp at hi
    have := h2 i (by omega)
    simpa [List.getD_eq_getElem?_getD, List.getElem?_take, show i < k by omega] using this
  · simp at h0
    obtain ⟨b, off, e1, e2, e3⟩ := h3 (by omega)
    refine ⟨b, off, e1, e2, fun i hi => ?_⟩
    simp at hi
    rw [e3 i (by omega)]
    simp [List.getD_eq_getElem?_getD, show i < k by omega]

theorem RowsIn.drop {w : World} {a a' : Option Addr} {vs : List Value} {Ls : List (List Int)} (h : RowsIn w a vs Ls) (k : Nat) (ha : k < vs.length → a' = a.map (fun x => x.add k)) : RowsIn w a' (vs.drop k) (Ls.drop k) := by
  obtain ⟨h1, h2, h3⟩ := h
  refine ⟨by simp [h1], fun i hi => ?_, fun h0 => ?_⟩
  · simp at hi
    have := h2 (k + i) (by omega)
    simpa [List.getD_eq_getElem?_getD] using this
  · simp at h0
    obtain ⟨b, off, e1, e2, e3⟩ := h3 (by omega)
    refine ⟨b, off + k, by rw [ha (by omega), e1]; simp [Addr.add], e2, fun i hi => ?_⟩
    simp at hi
    rw [Nat.add_assoc, e3 (k + i) (by omega)]
    simp [List.getD_eq_getElem?_getD]

theorem rows_cells {w : World} {a : Option Addr} {vs : List Value} {Ls : List (List Int)} (h : RowsIn w a vs Ls) : ∀ ad, a = some ad → ∀ j u, vs[j]? = some u → w.cell? (ad.add j) = some u := by
  intro ad ha j u hu
  have hj : j < vs.length := (List.getElem?_eq_some_iff.1 hu).1
  obtain ⟨b, off, e1, _, e3⟩ := h.2.2 (by omega)
  rw [ha] at e1
  obtain rfl := Option.some.inj e1
  have := e3 j hj
  rw [List.getD_eq_getElem?_getD, hu] at this
  rw [Addr.add_lit]; simpa using this

theorem rows_one {w : World} {a : Option Addr} {vs : List Value} {Ls : List (List Int)} (h : RowsIn w a vs Ls) : ∀ u ∈ vs, u.oneCell' = true := by
  intro u hu
  obtain ⟨i, hi, rfl⟩ := List.getElem_of_mem hu
  obtain ⟨ak, ck, e1, _⟩ := h.2.1 i hi
  have : vs[i] = .slice ak (Ls.getD i []).length ck := by rw [← e1]; simp [hi]
  rw [this]; rfl

/-- the values vs are the slices of the bytes Ls -/
def Elems (w : World) (vs : List Value) (Ls : List (List Int)) : Prop := vs.length = Ls.length ∧ ∀ i, i < vs.length → Elem w (vs.getD i undef) (Ls.getD i [])

theorem RowsIn.elems {w : World} {a : Option Addr} {vs : List Value} {Ls : List (List Int)} (h : RowsIn w a vs Ls) : Elems w vs Ls := ⟨h.1, h.2.1⟩

theorem elems_append {w : World} {vs us : List Value} {Ls Ms : List (List Int)} (h : Elems w vs Ls) (k : Elems w us Ms) : Elems w (vs ++ us) (Ls ++ Ms) := by
  obtain ⟨h1, h2⟩ := h
  obtain ⟨k1, k2⟩ := k
  refine ⟨by simp [h1, k1], fun i hi => ?_⟩
  rw [List.getD_eq_getElem?_getD, List.getD_eq_getElem?_getD, List.getElem?_append, List.getElem?_append]
  by_cases e : i < vs.length
  · rw [if_pos e, if_pos (by omega)]
    exact h2 i e
  · rw [if_neg e, if_neg (by omega), h1]
    simp at hi
    exact k2 (i - Ls.length) (by omega)

theorem elems_single {w : World} {v : Value} {L : List Int} (h : Elem w v L) : Elems w [v] [L] := ⟨rfl, fun i hi => by simp at hi; subst hi; exact h⟩

theorem grown_none {w w4 : World} (h : w.grownBy w4 none) : Below w.heap.size w w4 := (Below.refl _ _).grown h (Nat.le_refl _) (fun k hk => by cases hk)
theorem grown_own {B : Nat} {w w4 w5 : World} {g : Nat} (h : Below B w w4) (hB : B ≤ w4.heap.size) (k : w4.grownBy w5 (some g)) (hg : B ≤ g) : Below B w w5 := h.grown k hB (fun j hj => by cases hj; exact hg)
theorem grown_three {w w4 w5 w6 : World} {o : Obj} (h4 : w.grownBy w4 none) (h5 : w4.grownBy w5 (some w.heap.size)) (h6 : (w5.alloc o).grownBy w6 (some w.heap.size)) : Below w.heap.size w w6 := by
  have b4 := grown_none h4
  have b5 := grown_own b4 b4.size h5 (Nat.le_refl _)
  exact grown_own (b5.alloc b5.size o) (by have := b5.size; simp; omega) h6 (Nat.le_refl _)
theorem grown_four {w w4 w5 w6 w7 : World} {o : Obj} (h4 : w.grownBy w4 none) (h5 : w4.grownBy w5 (some w.heap.size)) (h6 : (w5.alloc o).grownBy w6 (some w.heap.size)) (h7 : w6.grownBy w7 (some w.heap.size)) : Below w.heap.size w w7 := by
  have b6 := grown_three h4 h5 h6
  exact grown_own b6 b6.size h7 (Nat.le_refl _)

theorem rows_of_own {w : World} {base g n cap : Nat} {vs : List Value} {Ls : List (List Int)} (h : w.ownsRow base 22 1 (.slice (some ⟨g, 0, none⟩) n cap) n vs) (hn : vs.length = n) (k : Elems w vs Ls) : RowsIn w (some ⟨g, 0, none⟩) vs Ls := by
  refine ⟨k.1, k.2, fun _ => ⟨g, 0, rfl, (h.lt g rfl).2, fun i hi => ?_⟩⟩
  have := h.cellAt i (by omega)
  rw [Nat.zero_add, this]
  simp [hi]

set_option maxHeartbeats 3200000 in
set_option maxRecDepth 100000 in
theorem split_nil (m d : Nat) (a2 : Option Addr) (x y : Int) (vs : List Value) (Ls : List (List Int)) (w : World)
    (hm0 : m ≤ 9223372036854775807) (hm : vs.length = m) (hmd : m ≤ d) (h2 : RowsIn w a2 vs Ls) (hnil : a2 = none → m = 0 ∧ d = 0) (hx : -9223372036854775808 ≤ x) (hx' : x ≤ 9223372036854775807) (hy : -9223372036854775808 ≤ y) (hy' : y ≤ 9223372036854775807) :
    Calls Try.prog 5 #[.slice none 0 0, .slice a2 m d, .int .i64 x, .int .i64 y] w fun e w' => e = .returned (.bool true) ∧ Below w.heap.size w w' := by
  obtain ⟨xs, hxs⟩ : ∃ xs : List Int, xs = [] := ⟨_, rfl⟩
  have HX : Hid (xs.length = 0) := by show _ = _; rw [hxs]; rfl
  have HBx : Hid (Bts xs) := by rw [hxs]; intro z hz; simp at hz
  have HF : Hid (Lies w none 0 xs) := fun h => by omega
  clear hxs
  have H2 : Hid (RowsIn w a2 vs Ls) := h2
  have HM : Hid (vs.length = m) := hm
  have HNI : Hid (a2 = none → m = 0 ∧ d = 0) := hnil
  have hneq := fun w a n c => run_neq_slice_nil_any (P := Try.prog) w 22 5 a n c 0 0 Try.underlying22
  go_enter Try.func5, Try.ntmps5
  go_wp2_with fail
  refine (bytes13_any none a2 0 0 m d x y vs Ls w (by omega) hm0 hm h2).mono ?_
  rintro e w' ⟨r, rfl, hr, hw⟩
  obtain rfl := hw.symm
  clear hw
  cases r with
  | false =>
    clear h2 hm hnil
    go_wp2
    go_ret
    exact ⟨rfl, Below.refl _ _⟩
  | true =>
    obtain ⟨hn1, hm1, hb⟩ := hr rfl
    have HB : Hid (∀ i, i < m → (Ls.getD i []).length ≤ 1048576) := hb
    clear h2 hm hb hr hnil
    go_wp2
    go_loop [10, 11] (fun z i => ∃ (k : Nat) (t : Int), k ≤ m ∧ i = .int .i64 k ∧ z = .int .i64 t ∧ 0 ≤ t ∧ t ≤ 1048576) (fun _ i => m - (intOf i).toNat)
    case atStart => exact ⟨0, 0, by omega, rfl, rfl, by omega, by omega⟩
    case round =>
      obtain ⟨k, t, hk, rfl, rfl, t0, t1⟩ := hrel
      by_cases hlt : k < m
      · obtain ⟨b, off, rfl, hb, hcells⟩ := H2.out.2.2 (by have := HM.out; omega)
        have hck := hcells k (by have := HM.out; omega)
        obtain ⟨ak, ck, e1, e2, e3, e4, e5⟩ := H2.out.2.1 k (by have := HM.out; omega)
        have e6 := HB.out k hlt
        rw [e1] at hck
        clear hcells e1 e4 e5
        generalize (Ls.getD k []).length = q at *
        by_cases d2 : 1048576 < t + (24 + q)
        · go_wp2
          go_ret
          exact ⟨rfl, Below.refl _ _⟩
        · go_wp2
          go_round
          case rel => exact ⟨k + 1, t + (24 + q), by omega, by go_num, rfl, by omega, by omega⟩
          case measure => simp [intOf]; omega
      · by_cases x1 : x < 0
        · go_wp2
          go_ret
          exact ⟨rfl, Below.refl _ _⟩
        by_cases x2 : (m : Int) < x
        · go_wp2
          go_ret
          exact ⟨rfl, Below.refl _ _⟩
        by_cases y1 : y < 0
        · go_wp2
          go_ret
          exact ⟨rfl, Below.refl _ _⟩
        by_cases y2 : (0 : Int) < y
        · go_wp2
          go_ret
          exact ⟨rfl, Below.refl _ _⟩
        obtain ⟨cN, rfl⟩ := Int.eq_ofNat_of_zero_le (show 0 ≤ x by omega)
        obtain ⟨kN, rfl⟩ := Int.eq_ofNat_of_zero_le (show 0 ≤ y by omega)
        have hcm : cN ≤ m := by omega
        have hkn : kN ≤ 0 := by omega
        obtain rfl : kN = 0 := by omega
        clear x1 x2 y1 y2 hx hx' hy hy' HB hk t0 t1
        by_cases hd : d = cN
        · subst hd
          have HE : Hid (one xs Ls = best (one xs (Ls.take d)) (one xs (Ls.drop d))) := by show _ = _; rw [← one_append, List.take_append_drop]
          have V1 := one_vals xs (Ls.take d)
          have V2 := one_vals xs (Ls.drop d)
          go_wp2_with fail
          refine (zzOneOf_any none a2 0 0 m d xs vs Ls _ HX.out (by omega) (by omega) HM.out (by omega) HF.out HBx.out H2.out).mono ?_
          rintro e w1 ⟨rfl, hw⟩; obtain rfl := hw.symm; clear hw
          go_wp2_with fail
          refine (zzOneOf_any none a2 0 0 d d xs (vs.take d) (Ls.take d) _ HX.out (by omega) (by omega) (by have := HM.out; simp; omega) (by omega) HF.out HBx.out (H2.out.take d)).mono ?_
          rintro e w1 ⟨rfl, hw⟩; obtain rfl := hw.symm; clear hw
          go_wp2_with fail
          have R3 := H2.out.drop d (a' := a2) (by have := HM.out; intro h; omega)
          refine (zzOneOf_any none _ 0 0 0 _ xs (vs.drop d) (Ls.drop d) _ HX.out (by omega) (by omega) (by have := HM.out; simp; omega) (by omega) HF.out HBx.out R3).mono ?_
          rintro e w1 ⟨rfl, hw⟩; obtain rfl := hw.symm; clear hw
          have HR3 : Hid (RowsIn w a2 (vs.drop d) (Ls.drop d)) := R3
          have HR2 : Hid (RowsIn w a2 (vs.take d) (Ls.take d)) := H2.out.take d
          have cb := best_any (one xs (Ls.take d)) (one xs (Ls.drop d)) V1 V2 w
          rw [← HE.out] at cb
          clear R3 V1 V2
          obtain ⟨i22, hi, hz0, hz1, hz2⟩ := info_parts Try.info22
          have hb24 : i22.bytes * (m + 1) ≤ 281474976710656 := by rw [hz2]; omega
          have hml : m + 1 ≤ maxLen := by unfold maxLen; omega
          have HN2 : Hid (a2 = none → d = 0 ∧ d = 0) := fun h => by have := HNI.out h; omega
          have HN3 : Hid (a2 = none → 0 = 0 ∧ 0 = 0) := fun h => by have := HNI.out (by simpa using h); omega
          have HFE : Hid (Elem w (.slice none 0 0) xs) := ⟨_, _, by rw [HX.out], by rw [HX.out]; omega, by rw [HX.out]; omega, by rw [HX.out]; exact HF.out, HBx.out⟩
          have HLT : Hid ((vs.take d).length = d) := by have := HM.out; show _ = _; simp; omega
          have HLD : Hid ((vs.drop d).length = 0) := by have := HM.out; show _ = _; simp; omega
          go_wp2_with (first
            | (go_at_call 11; refine cb.mono ?_; rintro e w1 ⟨rfl, hw⟩; obtain rfl := hw.symm; clear hw)
            | (at_make; refine wpList_make_own _ rfl _ _ 26 rfl w.heap.size 22 i22 (.slice none 0 0) 1 Try.underlying26 hi hz0 hz1 .i64 .i64 ((m : Int) + 1) (m + 1) rfl rfl (by omega) hb24 hml (Nat.le_refl _) ?_; intro w4 own4 grow4)
            | (at_builtin; refine wpList_append_fits_any _ rfl (.tmp 93) (.tmp 96) 26 rfl w.heap.size 22 i22 1 Try.underlying26 hi hz1 _ 0 (m + 1) [] rfl own4 a2 d d (vs.take d) rfl (by have := HLT.out; omega) HN2.out (rows_cells (HR2.out.below (grown_none grow4))) (rows_one HR2.out) (by omega) ?_; intro w5 own5 grow5; simp only [Nat.zero_add, List.nil_append] at own5)
            | (at_builtin; refine wpList_append_fits _ rfl (.tmp 98) (.tmp 100) 26 rfl w.heap.size 22 i22 1 Try.underlying26 hi hz1 _ d (m + 1) (vs.take d) rfl (own5.alloc _) ⟨w5.heap.size, 0, none⟩ 1 1 [.slice none 0 0] rfl rfl (cell_one_new _ _ _) (by intro u hu; simp at hu; subst hu; rfl) (by omega) ?_; intro w6 own6 grow6)
            | (at_builtin; (refine wpList_append_fits_any _ rfl (.tmp 102) (.tmp 105) 26 rfl w.heap.size 22 i22 1 Try.underlying26 hi hz1 _ (d + 1) (m + 1) _ rfl own6 a2 0 0 (vs.drop d) rfl (by have := HLD.out; omega) (fun _ => ⟨rfl, rfl⟩) (rows_cells (HR3.out.below (grown_three grow4 grow5 grow6))) (rows_one HR3.out) (by omega) ?_); intro w7 own7 grow7))
          have B7 := grown_four grow4 grow5 grow6 grow7
          have E7 : Elems w7 (vs.take d ++ [Value.slice none 0 0] ++ vs.drop d) (Ls.take d ++ [xs] ++ Ls.drop d) := elems_append (elems_append (HR2.out.below B7).elems (elems_single (HFE.out.below B7))) (HR3.out.below B7).elems
          have L7 : (vs.take d ++ [Value.slice none 0 0] ++ vs.drop d).length = (d + 1) := by have h1 := HLT.out; have h2 := HLD.out; rw [List.length_append, List.length_append, h1, h2]; rfl
          have R7 := rows_of_own own7 L7 E7
          have HF7 : Hid (Lies w7 none 0 xs) := HF.out.below B7
          have HR7 : Hid (RowsIn w7 a2 vs Ls) := H2.out.below B7
          have HBL : Hid (Below w.heap.size w w7) := B7
          have hI : one xs (Ls.take d ++ [xs] ++ Ls.drop d) = 1 := one_ins _ _ _
          refine (zzOneOf_any none _ 0 0 (d + 1) _ xs _ _ _ HX.out (by omega) (by omega) L7 (by omega) HF7.out HBx.out R7).mono ?_
          rw [hI]
          rintro e w1 ⟨rfl, hw⟩; obtain rfl := hw.symm; clear hw
          clear R7 E7 L7 B7 own4 own5 own6 own7 grow4 grow5 grow6 grow7 hI
          have c5 := zzOneOf_any none a2 0 0 m d (xs.take 0) vs Ls w7 (by have := HX.out; rw [List.length_take]; omega) (by omega) (by omega) HM.out (by omega) (HF7.out.take 0 (by omega)) (HBx.out.take 0) HR7.out
          have X5 := one_ext xs Ls 0
          generalize one (xs.take 0) Ls = sv at *
          generalize one xs Ls = wv at *
          clear HE cb HR2 HR3 HN2 HN3 HFE HLT HLD H2 HF
          by_cases hs0 : sv = 0
          · subst hs0
            clear X5
            go_wp2_with (go_at_call 12; refine c5.mono ?_; rintro e w1 ⟨rfl, hw⟩; obtain rfl := hw.symm; clear hw)
            go_ret
            exact ⟨rfl, HBL.out⟩
          · have ts : (sv != 0) = true := by simpa using hs0
            have tw : (sv != wv) = false := by have := X5 hs0; simp [this]
            clear X5 hs0
            go_wp2_with (go_at_call 12; refine c5.mono ?_; rintro e w1 ⟨rfl, hw⟩; obtain rfl := hw.symm; clear hw)
            go_ret
            exact ⟨rfl, HBL.out⟩
        · skip
          have HE : Hid (one xs Ls = best (one xs (Ls.take cN)) (one xs (Ls.drop cN))) := by show _ = _; rw [← one_append, List.take_append_drop]
          have V1 := one_vals xs (Ls.take cN)
          have V2 := one_vals xs (Ls.drop cN)
          go_wp2_with fail
          refine (zzOneOf_any none a2 0 0 m d xs vs Ls _ HX.out (by omega) (by omega) HM.out (by omega) HF.out HBx.out H2.out).mono ?_
          rintro e w1 ⟨rfl, hw⟩; obtain rfl := hw.symm; clear hw
          go_wp2_with fail
          refine (zzOneOf_any none a2 0 0 cN d xs (vs.take cN) (Ls.take cN) _ HX.out (by omega) (by omega) (by have := HM.out; simp; omega) (by omega) HF.out HBx.out (H2.out.take cN)).mono ?_
          rintro e w1 ⟨rfl, hw⟩; obtain rfl := hw.symm; clear hw
          go_wp2_with fail
          have R3 := H2.out.drop cN (a' := (a2.map (fun x => x.add cN))) (by have := HM.out; intro h; rfl)
          refine (zzOneOf_any none _ 0 0 (m - cN) _ xs (vs.drop cN) (Ls.drop cN) _ HX.out (by omega) (by omega) (by have := HM.out; simp; omega) (by omega) HF.out HBx.out R3).mono ?_
          rintro e w1 ⟨rfl, hw⟩; obtain rfl := hw.symm; clear hw
          have HR3 : Hid (RowsIn w (a2.map (fun x => x.add cN)) (vs.drop cN) (Ls.drop cN)) := R3
          have HR2 : Hid (RowsIn w a2 (vs.take cN) (Ls.take cN)) := H2.out.take cN
          have cb := best_any (one xs (Ls.take cN)) (one xs (Ls.drop cN)) V1 V2 w
          rw [← HE.out] at cb
          clear R3 V1 V2
          obtain ⟨i22, hi, hz0, hz1, hz2⟩ := info_parts Try.info22
          have hb24 : i22.bytes * (m + 1) ≤ 281474976710656 := by rw [hz2]; omega
          have hml : m + 1 ≤ maxLen := by unfold maxLen; omega
          have HN2 : Hid (a2 = none → cN = 0 ∧ d = 0) := fun h => by have := HNI.out h; omega
          have HN3 : Hid ((a2.map (fun x => x.add cN)) = none → (m - cN) = 0 ∧ (d - cN) = 0) := fun h => by have := HNI.out (by simpa using h); omega
          have HFE : Hid (Elem w (.slice none 0 0) xs) := ⟨_, _, by rw [HX.out], by rw [HX.out]; omega, by rw [HX.out]; omega, by rw [HX.out]; exact HF.out, HBx.out⟩
          have HLT : Hid ((vs.take cN).length = cN) := by have := HM.out; show _ = _; simp; omega
          have HLD : Hid ((vs.drop cN).length = (m - cN)) := by have := HM.out; show _ = _; simp; omega
          go_wp2_with (first
            | (go_at_call 11; refine cb.mono ?_; rintro e w1 ⟨rfl, hw⟩; obtain rfl := hw.symm; clear hw)
            | (at_make; refine wpList_make_own _ rfl _ _ 26 rfl w.heap.size 22 i22 (.slice none 0 0) 1 Try.underlying26 hi hz0 hz1 .i64 .i64 ((m : Int) + 1) (m + 1) rfl rfl (by omega) hb24 hml (Nat.le_refl _) ?_; intro w4 own4 grow4)
            | (at_builtin; refine wpList_append_fits_any _ rfl (.tmp 93) (.tmp 96) 26 rfl w.heap.size 22 i22 1 Try.underlying26 hi hz1 _ 0 (m + 1) [] rfl own4 a2 cN d (vs.take cN) rfl (by have := HLT.out; omega) HN2.out (rows_cells (HR2.out.below (grown_none grow4))) (rows_one HR2.out) (by omega) ?_; intro w5 own5 grow5; simp only [Nat.zero_add, List.nil_append] at own5)
            | (at_builtin; refine wpList_append_fits _ rfl (.tmp 98) (.tmp 100) 26 rfl w.heap.size 22 i22 1 Try.underlying26 hi hz1 _ cN (m + 1) (vs.take cN) rfl (own5.alloc _) ⟨w5.heap.size, 0, none⟩ 1 1 [.slice none 0 0] rfl rfl (cell_one_new _ _ _) (by intro u hu; simp at hu; subst hu; rfl) (by omega) ?_; intro w6 own6 grow6)
            | (at_builtin; (refine wpList_append_fits_any _ rfl (.tmp 102) (.tmp 105) 26 rfl w.heap.size 22 i22 1 Try.underlying26 hi hz1 _ (cN + 1) (m + 1) _ rfl own6 (a2.map (fun x => x.add cN)) (m - cN) (d - cN) (vs.drop cN) rfl (by have := HLD.out; omega) HN3.out (rows_cells (HR3.out.below (grown_three grow4 grow5 grow6))) (rows_one HR3.out) (by omega) ?_); intro w7 own7 grow7))
          have B7 := grown_four grow4 grow5 grow6 grow7
          have E7 : Elems w7 (vs.take cN ++ [Value.slice none 0 0] ++ vs.drop cN) (Ls.take cN ++ [xs] ++ Ls.drop cN) := elems_append (elems_append (HR2.out.below B7).elems (elems_single (HFE.out.below B7))) (HR3.out.below B7).elems
          have L7 : (vs.take cN ++ [Value.slice none 0 0] ++ vs.drop cN).length = (cN + 1 + (m - cN)) := by have h1 := HLT.out; have h2 := HLD.out; rw [List.length_append, List.length_append, h1, h2]; rfl
          have R7 := rows_of_own own7 L7 E7
          have HF7 : Hid (Lies w7 none 0 xs) := HF.out.below B7
          have HR7 : Hid (RowsIn w7 a2 vs Ls) := H2.out.below B7
          have HBL : Hid (Below w.heap.size w w7) := B7
          have hI : one xs (Ls.take cN ++ [xs] ++ Ls.drop cN) = 1 := one_ins _ _ _
          refine (zzOneOf_any none _ 0 0 (cN + 1 + (m - cN)) _ xs _ _ _ HX.out (by omega) (by omega) L7 (by omega) HF7.out HBx.out R7).mono ?_
          rw [hI]
          rintro e w1 ⟨rfl, hw⟩; obtain rfl := hw.symm; clear hw
          clear R7 E7 L7 B7 own4 own5 own6 own7 grow4 grow5 grow6 grow7 hI
          have c5 := zzOneOf_any none a2 0 0 m d (xs.take 0) vs Ls w7 (by have := HX.out; rw [List.length_take]; omega) (by omega) (by omega) HM.out (by omega) (HF7.out.take 0 (by omega)) (HBx.out.take 0) HR7.out
          have X5 := one_ext xs Ls 0
          generalize one (xs.take 0) Ls = sv at *
          generalize one xs Ls = wv at *
          clear HE cb HR2 HR3 HN2 HN3 HFE HLT HLD H2 HF
          by_cases hs0 : sv = 0
          · subst hs0
            clear X5
            go_wp2_with (go_at_call 12; refine c5.mono ?_; rintro e w1 ⟨rfl, hw⟩; obtain rfl := hw.symm; clear hw)
            go_ret
            exact ⟨rfl, HBL.out⟩
          · have ts : (sv != 0) = true := by simpa using hs0
            have tw : (sv != wv) = false := by have := X5 hs0; simp [this]
            clear X5 hs0
            go_wp2_with (go_at_call 12; refine c5.mono ?_; rintro e w1 ⟨rfl, hw⟩; obtain rfl := hw.symm; clear hw)
            go_ret
            exact ⟨rfl, HBL.out⟩

set_option maxHeartbeats 3200000 in
set_option maxRecDepth 100000 in
theorem split_some (x0 : Addr) (n c m d : Nat) (a2 : Option Addr) (x y : Int) (zs : List Int) (vs : List Value) (Ls : List (List Int)) (w : World)
    (hn0 : n ≤ 9223372036854775807) (hnz : n ≤ zs.length) (hcell : ∀ i, i < zs.length → w.cell? (x0.add i) = some (.int .u8 (zs.getD i 0))) (hbz : ∀ z ∈ zs, 0 ≤ z ∧ z ≤ 255)
    (hm0 : m ≤ 9223372036854775807) (hm : vs.length = m) (hmd : m ≤ d) (h2 : RowsIn w a2 vs Ls) (hnil : a2 = none → m = 0 ∧ d = 0) (hx : -9223372036854775808 ≤ x) (hx' : x ≤ 9223372036854775807) (hy : -9223372036854775808 ≤ y) (hy' : y ≤ 9223372036854775807) :
    Calls Try.prog 5 #[.slice (some x0) n c, .slice a2 m d, .int .i64 x, .int .i64 y] w fun e w' => e = .returned (.bool true) ∧ Below w.heap.size w w' := by
  have HM : Hid (vs.length = m) := hm
  have HNI : Hid (a2 = none → m = 0 ∧ d = 0) := hnil
  have hneq := fun w a n c => run_neq_slice_nil_any (P := Try.prog) w 22 5 a n c 0 0 Try.underlying22
  have HZ : Hid (∀ i, i < zs.length → w.cell? (x0.add i) = some (.int .u8 (zs.getD i 0))) := hcell
  have HZB : Hid (∀ z ∈ zs, 0 ≤ z ∧ z ≤ 255) := hbz
  have H2w : Hid (RowsIn w a2 vs Ls) := h2
  clear hcell hbz
  go_enter Try.func5, Try.ntmps5
  go_wp2_with fail
  refine (bytes13_any (some x0) a2 n c m d x y vs Ls w hn0 hm0 hm h2).mono ?_
  rintro e w' ⟨r, rfl, hr, hw⟩
  obtain rfl := hw.symm
  clear hw
  cases r with
  | false =>
    clear h2 hm hnil
    go_wp2
    go_ret
    exact ⟨rfl, Below.refl _ _⟩
  | true =>
    obtain ⟨hn1, hm1, hb⟩ := hr rfl
    have HB : Hid (∀ i, i < m → (Ls.getD i []).length ≤ 1048576) := hb
    clear h2 hm hb hr hnil
    obtain ⟨C, hCs, hCj, hcp⟩ := copied x0 n c zs w hnz HZ.out
    have hmk := run_make_row' (P := Try.prog) 22 5 (.int .u8 0) 1 Try.underlying22 Try.info5 rfl .i64 .i64 n (by omega) (by omega)
    obtain ⟨xs, hxs⟩ : ∃ xs : List Int, xs = zs.take n := ⟨_, rfl⟩
    have HX : Hid (xs.length = n) := by show _ = _; rw [hxs, List.length_take]; omega
    have HBx : Hid (Bts xs) := by rw [hxs]; intro z hz; exact HZB.out z (List.mem_of_mem_take hz)
    have HF : Hid (Lies (w.alloc (.cells C 5)) (some ⟨w.heap.size, 0, none⟩) n xs) := fun h => ⟨w.heap.size, 0, rfl, by simp, fun j hj => by
      rw [World.cell?_alloc_new, Nat.zero_add, hCj j hj, hxs]; simp [hj]⟩
    have H2 : Hid (RowsIn (w.alloc (.cells C 5)) a2 vs Ls) := H2w.out.below ((Below.refl _ _).alloc (Nat.le_refl _) _)
    have HBW : Hid (Below w.heap.size w (w.alloc (.cells C 5))) := (Below.refl _ _).alloc (Nat.le_refl _) _
    have zW : w.heap.size ≤ (w.alloc (.cells C 5)).heap.size := by simp
    clear hxs HZ HZB H2w hCj hCs
    go_wp2_with fail
    clear hcp hmk
    generalize w.alloc (.cells C 5) = W at *
    go_loop [10, 11] (fun z i => ∃ (k : Nat) (t : Int), k ≤ m ∧ i = .int .i64 k ∧ z = .int .i64 t ∧ 0 ≤ t ∧ t ≤ 1048576) (fun _ i => m - (intOf i).toNat)
    case atStart => exact ⟨0, n, by omega, rfl, rfl, by omega, by omega⟩
    case round =>
      obtain ⟨k, t, hk, rfl, rfl, t0, t1⟩ := hrel
      by_cases hlt : k < m
      · obtain ⟨b, off, rfl, hb, hcells⟩ := H2.out.2.2 (by have := HM.out; omega)
        have hck := hcells k (by have := HM.out; omega)
        obtain ⟨ak, ck, e1, e2, e3, e4, e5⟩ := H2.out.2.1 k (by have := HM.out; omega)
        have e6 := HB.out k hlt
        rw [e1] at hck
        clear hcells e1 e4 e5
        generalize (Ls.getD k []).length = q at *
        by_cases d2 : 1048576 < t + (24 + q)
        · go_wp2
          go_ret
          exact ⟨rfl, HBW.out⟩
        · go_wp2
          go_round
          case rel => exact ⟨k + 1, t + (24 + q), by omega, by go_num, rfl, by omega, by omega⟩
          case measure => simp [intOf]; omega
      · by_cases x1 : x < 0
        · go_wp2
          go_ret
          exact ⟨rfl, HBW.out⟩
        by_cases x2 : (m : Int) < x
        · go_wp2
          go_ret
          exact ⟨rfl, HBW.out⟩
        by_cases y1 : y < 0
        · go_wp2
          go_ret
          exact ⟨rfl, HBW.out⟩
        by_cases y2 : (n : Int) < y
        · go_wp2
          go_ret
          exact ⟨rfl, HBW.out⟩
        obtain ⟨cN, rfl⟩ := Int.eq_ofNat_of_zero_le (show 0 ≤ x by omega)
        obtain ⟨kN, rfl⟩ := Int.eq_ofNat_of_zero_le (show 0 ≤ y by omega)
        have hcm : cN ≤ m := by omega
        have hkn : kN ≤ n := by omega
        clear x1 x2 y1 y2 hx hx' hy hy' HB hk t0 t1
        by_cases hd : d = cN
        · subst hd
          have HE : Hid (one xs Ls = best (one xs (Ls.take d)) (one xs (Ls.drop d))) := by show _ = _; rw [← one_append, List.take_append_drop]
          have V1 := one_vals xs (Ls.take d)
          have V2 := one_vals xs (Ls.drop d)
          go_wp2_with fail
          refine (zzOneOf_any (some ⟨w.heap.size, 0, none⟩) a2 n n m d xs vs Ls _ HX.out (by omega) (by omega) HM.out (by omega) HF.out HBx.out H2.out).mono ?_
          rintro e w1 ⟨rfl, hw⟩; obtain rfl := hw.symm; clear hw
          go_wp2_with fail
          refine (zzOneOf_any (some ⟨w.heap.size, 0, none⟩) a2 n n d d xs (vs.take d) (Ls.take d) _ HX.out (by omega) (by omega) (by have := HM.out; simp; omega) (by omega) HF.out HBx.out (H2.out.take d)).mono ?_
          rintro e w1 ⟨rfl, hw⟩; obtain rfl := hw.symm; clear hw
          go_wp2_with fail
          have R3 := H2.out.drop d (a' := a2) (by have := HM.out; intro h; omega)
          refine (zzOneOf_any (some ⟨w.heap.size, 0, none⟩) _ n n 0 _ xs (vs.drop d) (Ls.drop d) _ HX.out (by omega) (by omega) (by have := HM.out; simp; omega) (by omega) HF.out HBx.out R3).mono ?_
          rintro e w1 ⟨rfl, hw⟩; obtain rfl := hw.symm; clear hw
          have HR3 : Hid (RowsIn W a2 (vs.drop d) (Ls.drop d)) := R3
          have HR2 : Hid (RowsIn W a2 (vs.take d) (Ls.take d)) := H2.out.take d
          have cb := best_any (one xs (Ls.take d)) (one xs (Ls.drop d)) V1 V2 W
          rw [← HE.out] at cb
          clear R3 V1 V2
          obtain ⟨i22, hi, hz0, hz1, hz2⟩ := info_parts Try.info22
          have hb24 : i22.bytes * (m + 1) ≤ 281474976710656 := by rw [hz2]; omega
          have hml : m + 1 ≤ maxLen := by unfold maxLen; omega
          have HN2 : Hid (a2 = none → d = 0 ∧ d = 0) := fun h => by have := HNI.out h; omega
          have HN3 : Hid (a2 = none → 0 = 0 ∧ 0 = 0) := fun h => by have := HNI.out (by simpa using h); omega
          have HFE : Hid (Elem W (.slice (some ⟨w.heap.size, 0, none⟩) n n) xs) := ⟨_, _, by rw [HX.out], by rw [HX.out]; omega, by rw [HX.out]; omega, by rw [HX.out]; exact HF.out, HBx.out⟩
          have HLT : Hid ((vs.take d).length = d) := by have := HM.out; show _ = _; simp; omega
          have HLD : Hid ((vs.drop d).length = 0) := by have := HM.out; show _ = _; simp; omega
          go_wp2_with (first
            | (go_at_call 11; refine cb.mono ?_; rintro e w1 ⟨rfl, hw⟩; obtain rfl := hw.symm; clear hw)
            | (at_make; refine wpList_make_own _ rfl _ _ 26 rfl w.heap.size 22 i22 (.slice none 0 0) 1 Try.underlying26 hi hz0 hz1 .i64 .i64 ((m : Int) + 1) (m + 1) rfl rfl (by omega) hb24 hml zW ?_; intro w4 own4 grow4)
            | (at_builtin; refine wpList_append_fits_any _ rfl (.tmp 93) (.tmp 96) 26 rfl w.heap.size 22 i22 1 Try.underlying26 hi hz1 _ 0 (m + 1) [] rfl own4 a2 d d (vs.take d) rfl (by have := HLT.out; omega) HN2.out (rows_cells (HR2.out.below (grown_none grow4))) (rows_one HR2.out) (by omega) ?_; intro w5 own5 grow5; simp only [Nat.zero_add, List.nil_append] at own5)
            | (at_builtin; refine wpList_append_fits _ rfl (.tmp 98) (.tmp 100) 26 rfl w.heap.size 22 i22 1 Try.underlying26 hi hz1 _ d (m + 1) (vs.take d) rfl (own5.alloc _) ⟨w5.heap.size, 0, none⟩ 1 1 [.slice (some ⟨w.heap.size, 0, none⟩) n n] rfl rfl (cell_one_new _ _ _) (by intro u hu; simp at hu; subst hu; rfl) (by omega) ?_; intro w6 own6 grow6)
            | (at_builtin; (refine wpList_append_fits_any _ rfl (.tmp 102) (.tmp 105) 26 rfl w.heap.size 22 i22 1 Try.underlying26 hi hz1 _ (d + 1) (m + 1) _ rfl own6 a2 0 0 (vs.drop d) rfl (by have := HLD.out; omega) (fun _ => ⟨rfl, rfl⟩) (rows_cells (HR3.out.below (grown_three grow4 grow5 grow6))) (rows_one HR3.out) (by omega) ?_); intro w7 own7 grow7))
          have B7 := grown_four grow4 grow5 grow6 grow7
          have E7 : Elems w7 (vs.take d ++ [Value.slice (some ⟨w.heap.size, 0, none⟩) n n] ++ vs.drop d) (Ls.take d ++ [xs] ++ Ls.drop d) := elems_append (elems_append (HR2.out.below B7).elems (elems_single (HFE.out.below B7))) (HR3.out.below B7).elems
          have L7 : (vs.take d ++ [Value.slice (some ⟨w.heap.size, 0, none⟩) n n] ++ vs.drop d).length = (d + 1) := by have h1 := HLT.out; have h2 := HLD.out; rw [List.length_append, List.length_append, h1, h2]; rfl
          have R7 := rows_of_own own7 L7 E7
          have HF7 : Hid (Lies w7 (some ⟨w.heap.size, 0, none⟩) n xs) := HF.out.below B7
          have HR7 : Hid (RowsIn w7 a2 vs Ls) := H2.out.below B7
          have HBL : Hid (Below w.heap.size w w7) := HBW.out.trans (B7.mono zW)
          have hI : one xs (Ls.take d ++ [xs] ++ Ls.drop d) = 1 := one_ins _ _ _
          refine (zzOneOf_any (some ⟨w.heap.size, 0, none⟩) _ n n (d + 1) _ xs _ _ _ HX.out (by omega) (by omega) L7 (by omega) HF7.out HBx.out R7).mono ?_
          rw [hI]
          rintro e w1 ⟨rfl, hw⟩; obtain rfl := hw.symm; clear hw
          clear R7 E7 L7 B7 own4 own5 own6 own7 grow4 grow5 grow6 grow7 hI
          have c5 := zzOneOf_any (some ⟨w.heap.size, 0, none⟩) a2 kN n m d (xs.take kN) vs Ls w7 (by have := HX.out; rw [List.length_take]; omega) (by omega) (by omega) HM.out (by omega) (HF7.out.take kN (by omega)) (HBx.out.take kN) HR7.out
          have X5 := one_ext xs Ls kN
          generalize one (xs.take kN) Ls = sv at *
          generalize one xs Ls = wv at *
          clear HE cb HR2 HR3 HN2 HN3 HFE HLT HLD H2 HF
          by_cases hs0 : sv = 0
          · subst hs0
            clear X5
            go_wp2_with (go_at_call 12; refine c5.mono ?_; rintro e w1 ⟨rfl, hw⟩; obtain rfl := hw.symm; clear hw)
            go_ret
            exact ⟨rfl, HBL.out⟩
          · have ts : (sv != 0) = true := by simpa using hs0
            have tw : (sv != wv) = false := by have := X5 hs0; simp [this]
            clear X5 hs0
            go_wp2_with (go_at_call 12; refine c5.mono ?_; rintro e w1 ⟨rfl, hw⟩; obtain rfl := hw.symm; clear hw)
            go_ret
            exact ⟨rfl, HBL.out⟩
        · skip
          have HE : Hid (one xs Ls = best (one xs (Ls.take cN)) (one xs (Ls.drop cN))) := by show _ = _; rw [← one_append, List.take_append_drop]
          have V1 := one_vals xs (Ls.take cN)
          have V2 := one_vals xs (Ls.drop cN)
          go_wp2_with fail
          refine (zzOneOf_any (some ⟨w.heap.size, 0, none⟩) a2 n n m d xs vs Ls _ HX.out (by omega) (by omega) HM.out (by omega) HF.out HBx.out H2.out).mono ?_
          rintro e w1 ⟨rfl, hw⟩; obtain rfl := hw.symm; clear hw
          go_wp2_with fail
          refine (zzOneOf_any (some ⟨w.heap.size, 0, none⟩) a2 n n cN d xs (vs.take cN) (Ls.take cN) _ HX.out (by omega) (by omega) (by have := HM.out; simp; omega) (by omega) HF.out HBx.out (H2.out.take cN)).mono ?_
          rintro e w1 ⟨rfl, hw⟩; obtain rfl := hw.symm; clear hw
          go_wp2_with fail
          have R3 := H2.out.drop cN (a' := (a2.map (fun x => x.add cN))) (by have := HM.out; intro h; rfl)
          refine (zzOneOf_any (some ⟨w.heap.size, 0, none⟩) _ n n (m - cN) _ xs (vs.drop cN) (Ls.drop cN) _ HX.out (by omega) (by omega) (by have := HM.out; simp; omega) (by omega) HF.out HBx.out R3).mono ?_
          rintro e w1 ⟨rfl, hw⟩; obtain rfl := hw.symm; clear hw
          have HR3 : Hid (RowsIn W (a2.map (fun x => x.add cN)) (vs.drop cN) (Ls.drop cN)) := R3
          have HR2 : Hid (RowsIn W a2 (vs.take cN) (Ls.take cN)) := H2.out.take cN
          have cb := best_any (one xs (Ls.take cN)) (one xs (Ls.drop cN)) V1 V2 W
          rw [← HE.out] at cb
          clear R3 V1 V2
          obtain ⟨i22, hi, hz0, hz1, hz2⟩ := info_parts Try.info22
          have hb24 : i22.bytes * (m + 1) ≤ 281474976710656 := by rw [hz2]; omega
          have hml : m + 1 ≤ maxLen := by unfold maxLen; omega
          have HN2 : Hid (a2 = none → cN = 0 ∧ d = 0) := fun h => by have := HNI.out h; omega
          have HN3 : Hid ((a2.map (fun x => x.add cN)) = none → (m - cN) = 0 ∧ (d - cN) = 0) := fun h => by have := HNI.out (by simpa using h); omega
          have HFE : Hid (Elem W (.slice (some ⟨w.heap.size, 0, none⟩) n n) xs) := ⟨_, _, by rw [HX.out], by rw [HX.out]; omega, by rw [HX.out]; omega, by rw [HX.out]; exact HF.out, HBx.out⟩
          have HLT : Hid ((vs.take cN).length = cN) := by have := HM.out; show _ = _; simp; omega
          have HLD : Hid ((vs.drop cN).length = (m - cN)) := by have := HM.out; show _ = _; simp; omega
          go_wp2_with (first
            | (go_at_call 11; refine cb.mono ?_; rintro e w1 ⟨rfl, hw⟩; obtain rfl := hw.symm; clear hw)
            | (at_make; refine wpList_make_own _ rfl _ _ 26 rfl w.heap.size 22 i22 (.slice none 0 0) 1 Try.underlying26 hi hz0 hz1 .i64 .i64 ((m : Int) + 1) (m + 1) rfl rfl (by omega) hb24 hml zW ?_; intro w4 own4 grow4)
            | (at_builtin; refine wpList_append_fits_any _ rfl (.tmp 93) (.tmp 96) 26 rfl w.heap.size 22 i22 1 Try.underlying26 hi hz1 _ 0 (m + 1) [] rfl own4 a2 cN d (vs.take cN) rfl (by have := HLT.out; omega) HN2.out (rows_cells (HR2.out.below (grown_none grow4))) (rows_one HR2.out) (by omega) ?_; intro w5 own5 grow5; simp only [Nat.zero_add, List.nil_append] at own5)
            | (at_builtin; refine wpList_append_fits _ rfl (.tmp 98) (.tmp 100) 26 rfl w.heap.size 22 i22 1 Try.underlying26 hi hz1 _ cN (m + 1) (vs.take cN) rfl (own5.alloc _) ⟨w5.heap.size, 0, none⟩ 1 1 [.slice (some ⟨w.heap.size, 0, none⟩) n n] rfl rfl (cell_one_new _ _ _) (by intro u hu; simp at hu; subst hu; rfl) (by omega) ?_; intro w6 own6 grow6)
            | (at_builtin; (refine wpList_append_fits_any _ rfl (.tmp 102) (.tmp 105) 26 rfl w.heap.size 22 i22 1 Try.underlying26 hi hz1 _ (cN + 1) (m + 1) _ rfl own6 (a2.map (fun x => x.add cN)) (m - cN) (d - cN) (vs.drop cN) rfl (by have := HLD.out; omega) HN3.out (rows_cells (HR3.out.below (grown_three grow4 grow5 grow6))) (rows_one HR3.out) (by omega) ?_); intro w7 own7 grow7))
          have B7 := grown_four grow4 grow5 grow6 grow7
          have E7 : Elems w7 (vs.take cN ++ [Value.slice (some ⟨w.heap.size, 0, none⟩) n n] ++ vs.drop cN) (Ls.take cN ++ [xs] ++ Ls.drop cN) := elems_append (elems_append (HR2.out.below B7).elems (elems_single (HFE.out.below B7))) (HR3.out.below B7).elems
          have L7 : (vs.take cN ++ [Value.slice (some ⟨w.heap.size, 0, none⟩) n n] ++ vs.drop cN).length = (cN + 1 + (m - cN)) := by have h1 := HLT.out; have h2 := HLD.out; rw [List.length_append, List.length_append, h1, h2]; rfl
          have R7 := rows_of_own own7 L7 E7
          have HF7 : Hid (Lies w7 (some ⟨w.heap.size, 0, none⟩) n xs) := HF.out.below B7
          have HR7 : Hid (RowsIn w7 a2 vs Ls) := H2.out.below B7
          have HBL : Hid (Below w.heap.size w w7) := HBW.out.trans (B7.mono zW)
          have hI : one xs (Ls.take cN ++ [xs] ++ Ls.drop cN) = 1 := one_ins _ _ _
          refine (zzOneOf_any (some ⟨w.heap.size, 0, none⟩) _ n n (cN + 1 + (m - cN)) _ xs _ _ _ HX.out (by omega) (by omega) L7 (by omega) HF7.out HBx.out R7).mono ?_
          rw [hI]
          rintro e w1 ⟨rfl, hw⟩; obtain rfl := hw.symm; clear hw
          clear R7 E7 L7 B7 own4 own5 own6 own7 grow4 grow5 grow6 grow7 hI
          have c5 := zzOneOf_any (some ⟨w.heap.size, 0, none⟩) a2 kN n m d (xs.take kN) vs Ls w7 (by have := HX.out; rw [List.length_take]; omega) (by omega) (by omega) HM.out (by omega) (HF7.out.take kN (by omega)) (HBx.out.take kN) HR7.out
          have X5 := one_ext xs Ls kN
          generalize one (xs.take kN) Ls = sv at *
          generalize one xs Ls = wv at *
          clear HE cb HR2 HR3 HN2 HN3 HFE HLT HLD H2 HF
          by_cases hs0 : sv = 0
          · subst hs0
            clear X5
            go_wp2_with (go_at_call 12; refine c5.mono ?_; rintro e w1 ⟨rfl, hw⟩; obtain rfl := hw.symm; clear hw)
            go_ret
            exact ⟨rfl, HBL.out⟩
          · have ts : (sv != 0) = true := by simpa using hs0
            have tw : (sv != wv) = false := by have := X5 hs0; simp [this]
            clear X5 hs0
            go_wp2_with (go_at_call 12; refine c5.mono ?_; rintro e w1 ⟨rfl, hw⟩; obtain rfl := hw.symm; clear hw)
            go_ret
            exact ⟨rfl, HBL.out⟩

end Go.Proofs.Qxb6618072a

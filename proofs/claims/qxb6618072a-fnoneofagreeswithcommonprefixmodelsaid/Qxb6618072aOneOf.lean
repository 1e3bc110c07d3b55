/- seat b6618072a: the contracts of bytes.Equal, bytes.HasPrefix, matchPrefix, matchOneOf and its shim, zzBest -/
import Derived.Test.Qxb6618072aOneLaw
import Derived.Test.Qxb6618072aClone
import Derived.WalkKit
import Derived.WalkSpells
import Derived.Shelf.Bytes.SlSmallAll
namespace Go.Proofs.Qxb6618072a
open Go.RowKit

/-- each number is a byte -/
def Bts (L : List Int) : Prop := ∀ z ∈ L, 0 ≤ z ∧ z ≤ 255

theorem strOf_inj {xs ys : List Int} (hx : Bts xs) (hy : Bts ys) : ((strOfNums xs).toList == (strOfNums ys).toList) = decide (xs = ys) := by
  rw [Lib.strOfNums_toList, Lib.strOfNums_toList]
  by_cases h : xs = ys
  · subst h; simp
  · rw [decide_eq_false h]
    simp only [beq_eq_false_iff_ne, ne_eq]
    intro e
    apply h
    unfold Lib.bytesOf at e
    have hl : xs.length = ys.length := by have := congrArg List.length e; simpa using this
    apply List.ext_getElem hl
    intro i h1 h2
    have e2 := congrArg (fun l => l[i]?) e
    simp [h1, h2] at e2
    have a1 := hx xs[i] (by simp)
    have a2 := hy ys[i] (by simp)
    have := congrArg UInt8.toNat e2
    simp at this
    omega

theorem convert_lies {w : World} {a : Option Addr} {n : Nat} (c : Nat) {xs : List Int} (h : Lies w a n xs) (hx : xs.length = n) :
    (convert 22 9 (.slice a n c)).run Try.prog w = .ok (.string (strOfNums xs)) w := by
  by_cases h0 : 0 < n
  · obtain ⟨b, off, rfl, _, hc⟩ := h h0
    exact run_convert_bytes_arg (P := Try.prog) w 22 5 Try.underlying22 Try.underlying5 b off n c xs hx hc 9 Try.underlying9
  · obtain rfl : n = 0 := by omega
    obtain rfl : xs = [] := List.eq_nil_of_length_eq_zero hx
    exact run_convert_bytes_zero (P := Try.prog) w 22 5 Try.underlying22 Try.underlying5 a c 9 Try.underlying9

theorem equal_any (a1 a2 : Option Addr) (n c m d : Nat) (xs ys : List Int) (w : World) (hx : xs.length = n) (hy : ys.length = m) (h1 : Lies w a1 n xs) (h2 : Lies w a2 m ys) (bx : Bts xs) (b_y : Bts ys) :
    Calls Try.prog 24 #[.slice a1 n c, .slice a2 m d] w fun e w' => e = .returned (.bool (decide (xs = ys))) ∧ w' = w := by
  have k1 := convert_lies c h1 hx
  have k2 := convert_lies d h2 hy
  have HE : Hid (((strOfNums xs).toList == (strOfNums ys).toList) = decide (xs = ys)) := strOf_inj bx b_y
  clear h1 h2 bx b_y hx hy
  go_enter Try.func24, Try.ntmps24
  go_wp2
  go_ret
  exact ⟨by rw [← HE.out]; rfl, rfl⟩

theorem Lies.take {w : World} {a : Option Addr} {n : Nat} {xs : List Int} (h : Lies w a n xs) (m : Nat) (hm : m ≤ n) : Lies w a m (xs.take m) := fun h0 => by
  obtain ⟨b, off, h1, h2, h3⟩ := h (by omega)
  refine ⟨b, off, h1, h2, fun j hj => ?_⟩
  rw [h3 j (by omega)]
  simp [List.getD_eq_getElem?_getD, hj]

theorem Bts.take {xs : List Int} (h : Bts xs) (m : Nat) : Bts (xs.take m) := fun z hz => h z (List.mem_of_mem_take hz)

theorem hasPrefix_any (a1 a2 : Option Addr) (n c m d : Nat) (xs ys : List Int) (w : World) (hx : xs.length = n) (hy : ys.length = m) (hc : n ≤ c) (_hn : n ≤ 9223372036854775807) (hm : m ≤ 9223372036854775807)
    (h1 : Lies w a1 n xs) (h2 : Lies w a2 m ys) (bx : Bts xs) (b_y : Bts ys) :
    Calls Try.prog 23 #[.slice a1 n c, .slice a2 m d] w fun e w' => e = .returned (.bool (decide (m ≤ n ∧ xs.take m = ys))) ∧ w' = w := by
  by_cases h : m ≤ n
  · have ce := equal_any a1 a2 m c m d (xs.take m) ys w (by simp; omega) hy (h1.take m h) h2 (bx.take m) b_y
    have HD : Hid (decide (m ≤ n ∧ xs.take m = ys) = decide (xs.take m = ys)) := by show _ = _; simp [h]
    clear h1 h2 bx b_y hx hy
    generalize decide (xs.take m = ys) = r at *
    go_enter Try.func23, Try.ntmps23
    go_wp2_with (go_at_call 24; refine ce.mono ?_; rintro e w' ⟨rfl, rfl⟩)
    go_ret
    exact ⟨by rw [HD.out]; rfl, rfl⟩
  · have HD : Hid (decide (m ≤ n ∧ xs.take m = ys) = false) := by show _ = _; simp [h]
    clear h1 h2 bx b_y hx hy
    go_enter Try.func23, Try.ntmps23
    go_wp2
    go_ret
    exact ⟨by rw [HD.out]; rfl, rfl⟩

theorem matchPrefix_any (a1 a2 : Option Addr) (n c m d : Nat) (xs ys : List Int) (w : World) (hx : xs.length = n) (hy : ys.length = m) (hc : n ≤ c) (hd : m ≤ d) (hn : n ≤ 9223372036854775807) (hm : m ≤ 9223372036854775807)
    (h1 : Lies w a1 n xs) (h2 : Lies w a2 m ys) (bx : Bts xs) (b_y : Bts ys) :
    Calls Try.prog 22 #[.slice a1 n c, .slice a2 m d] w fun e w' => e = .returned (.int .i64 (mp xs ys)) ∧ w' = w := by
  by_cases h : n < m
  · have ce := hasPrefix_any a2 a1 m d n c ys xs w hy hx hd hm hn h2 h1 b_y bx
    have HM : Hid (mp xs ys = if decide (n ≤ m ∧ ys.take n = xs) then 0 else 2) := by
      show _ = _; unfold mp; rw [hx, hy, if_pos h]; simp [Nat.le_of_lt h]
    clear h1 h2 bx b_y hx hy
    generalize decide (n ≤ m ∧ ys.take n = xs) = r at *
    cases r
    all_goals
      go_enter Try.func22, Try.ntmps22
      go_wp2_with (go_at_call 23; refine ce.mono ?_; rintro e w' ⟨rfl, rfl⟩)
      go_ret
      exact ⟨by rw [HM.out]; rfl, rfl⟩
  · have ce := hasPrefix_any a1 a2 n c m d xs ys w hx hy hc hn hm h1 h2 bx b_y
    have HM : Hid (mp xs ys = if decide (m ≤ n ∧ xs.take m = ys) then 1 else 2) := by
      show _ = _; unfold mp; rw [hx, hy, if_neg h]; simp [Nat.le_of_not_lt h]
    clear h1 h2 bx b_y hx hy
    generalize decide (m ≤ n ∧ xs.take m = ys) = r at *
    cases r
    all_goals
      go_enter Try.func22, Try.ntmps22
      go_wp2_with (go_at_call 23; refine ce.mono ?_; rintro e w' ⟨rfl, rfl⟩)
      go_ret
      exact ⟨by rw [HM.out]; rfl, rfl⟩

/-- a value that is the slice of the bytes L -/
def Elem (w : World) (v : Value) (L : List Int) : Prop := ∃ a c, v = .slice a L.length c ∧ L.length ≤ c ∧ L.length ≤ 9223372036854775807 ∧ Lies w a L.length L ∧ Bts L

/-- the slices vs, whose bytes are Ls, lie at address a -/
def RowsIn (w : World) (a : Option Addr) (vs : List Value) (Ls : List (List Int)) : Prop :=
  vs.length = Ls.length ∧ (∀ i, i < vs.length → Elem w (vs.getD i undef) (Ls.getD i [])) ∧
  (0 < vs.length → ∃ b off, a = some ⟨b, off, none⟩ ∧ b < w.heap.size ∧ ∀ i, i < vs.length → w.cell? ⟨b, off + i, none⟩ = some (vs.getD i undef))

theorem Elem.below {w w' : World} {v : Value} {L : List Int} (h : Elem w v L) (hb : Below w.heap.size w w') : Elem w' v L := by
  obtain ⟨a, c, h1, h2, h3, h4, h5⟩ := h
  exact ⟨a, c, h1, h2, h3, h4.below hb, h5⟩

theorem RowsIn.below {w w' : World} {a : Option Addr} {vs : List Value} {Ls : List (List Int)} (h : RowsIn w a vs Ls) (hb : Below w.heap.size w w') : RowsIn w' a vs Ls := by
  obtain ⟨h1, h2, h3⟩ := h
  refine ⟨h1, fun i hi => (h2 i hi).below hb, fun h0 => ?_⟩
  obtain ⟨b, off, e1, e2, e3⟩ := h3 h0
  exact ⟨b, off, e1, by have := hb.size; omega, fun i hi => (hb.cell (p := ⟨b, off + i, none⟩) e2).trans (e3 i hi)⟩

set_option maxHeartbeats 800000 in
theorem matchOneOf_any (a1 a2 : Option Addr) (n c m d : Nat) (xs : List Int) (vs : List Value) (Ls : List (List Int)) (w : World) (hx : xs.length = n) (hc : n ≤ c) (hn : n ≤ 9223372036854775807) (hm : vs.length = m) (hm' : m ≤ 1048577)
    (h1 : Lies w a1 n xs) (bx : Bts xs) (h2 : RowsIn w a2 vs Ls) :
    Calls Try.prog 20 #[.slice a1 n c, .slice a2 m d] w fun e w' => e = .returned (.int .i64 (one xs Ls)) ∧ w' = w := by
  have HX : Hid (xs.length = n) := hx
  have H1 : Hid (Lies w a1 n xs) := h1
  have HB : Hid (Bts xs) := bx
  have H2 : Hid (RowsIn w a2 vs Ls) := h2
  have HM : Hid (vs.length = m) := hm
  have HL : Hid (Ls.length = m) := h2.1.symm.trans hm
  clear hx h1 bx h2 hm
  go_enter Try.func20, Try.ntmps20
  go_wp2
  go_loop [5, 10] (fun v i => ∃ k : Nat, k ≤ m ∧ i = .int .i64 k ∧ v = .int .i64 (one xs (Ls.take k)) ∧ Hid (one xs (Ls.take k) ≠ 1)) (fun _ i => m - (intOf i).toNat)
  case atStart => exact ⟨0, by omega, rfl, rfl, by show _ ≠ _; simp [one_nil]⟩
  case round =>
    obtain ⟨k, hk, rfl, rfl, HN⟩ := hrel
    by_cases hlt : k < m
    · obtain ⟨b, off, rfl, hb, hcells⟩ := H2.out.2.2 (by have := HM.out; omega)
      have hck := hcells k (by have := HM.out; omega)
      obtain ⟨ak, ck, e1, e2, e3, e4, e5⟩ := H2.out.2.1 k (by have := HM.out; omega)
      rw [e1] at hck
      have cm := matchPrefix_any a1 ak n c (Ls.getD k []).length ck xs (Ls.getD k []) w HX.out rfl hc e2 hn e3 H1.out e4 HB.out e5
      have HS : Hid (one xs (Ls.take (k + 1)) = best (one xs (Ls.take k)) (mp xs (Ls.getD k []))) := one_snoc xs Ls k (by have := HL.out; omega)
      have HV := mp_vals xs (Ls.getD k [])
      have HH : Hid (mp xs (Ls.getD k []) = 1 → one xs Ls = 1) := one_hit xs Ls k (by have := HL.out; omega)
      have HO := one_vals xs (Ls.take k)
      generalize mp xs (Ls.getD k []) = r at *
      generalize one xs (Ls.take k) = o at *
      generalize (Ls.getD k []).length = q at *
      clear hcells e1 e4 e5
      rcases HV with rfl | rfl | rfl
      · go_wp2_with (go_at_call 22; refine cm.mono ?_; rintro e w' ⟨rfl, rfl⟩)
        have e0 : best o 0 = 0 := by have := HN.out; unfold best; rw [if_neg (by omega), if_pos (by omega)]
        go_round
        case rel => exact ⟨k + 1, by omega, by go_num, by rw [HS.out, e0], by show _ ≠ _; rw [HS.out, e0]; decide⟩
        case measure => simp [intOf]; omega
      · have H1s : Hid (one xs Ls = 1) := HH.out rfl
        go_wp2_with (go_at_call 22; refine cm.mono ?_; rintro e w' ⟨rfl, rfl⟩)
        go_ret
        exact ⟨by rw [H1s.out]; rfl, rfl⟩
      · have e2 : best o 2 = o := by have := HN.out; unfold best; rw [if_neg (by omega)]; split <;> omega
        have HE : Hid (best o 2 = o) := e2
        clear e2
        go_wp2_with (go_at_call 22; refine cm.mono ?_; rintro e w' ⟨rfl, rfl⟩)
        go_round
        case rel => exact ⟨k + 1, by omega, by go_num, by rw [HS.out, HE.out], by show _ ≠ _; rw [HS.out, HE.out]; exact HN.out⟩
        case measure => simp [intOf]; omega
    · have he : Ls.take k = Ls := List.take_of_length_le (by have := HL.out; omega)
      rw [he]
      clear HN he
      go_wp2
      go_ret
      exact ⟨rfl, rfl⟩

theorem zzOneOf_any (a1 a2 : Option Addr) (n c m d : Nat) (xs : List Int) (vs : List Value) (Ls : List (List Int)) (w : World) (hx : xs.length = n) (hc : n ≤ c) (hn : n ≤ 9223372036854775807) (hm : vs.length = m) (hm' : m ≤ 1048577)
    (h1 : Lies w a1 n xs) (bx : Bts xs) (h2 : RowsIn w a2 vs Ls) :
    Calls Try.prog 12 #[.slice a1 n c, .slice a2 m d] w fun e w' => e = .returned (.int .i64 (one xs Ls)) ∧ w' = w := by
  have cm := matchOneOf_any a1 a2 n c m d xs vs Ls w hx hc hn hm hm' h1 bx h2
  clear hx h1 bx h2 hm
  generalize one xs Ls = r at *
  go_enter Try.func12, Try.ntmps12
  go_wp2_with (go_at_call 20; refine cm.mono ?_; rintro e w' ⟨rfl, rfl⟩)
  go_ret
  exact ⟨rfl, rfl⟩

theorem best_any (a b : Int) (ha : a = 0 ∨ a = 1 ∨ a = 2) (hb : b = 0 ∨ b = 1 ∨ b = 2) (w : World) :
    Calls Try.prog 11 #[.int .i64 a, .int .i64 b] w fun e w' => e = .returned (.int .i64 (best a b)) ∧ w' = w := by
  rcases ha with rfl | rfl | rfl <;> rcases hb with rfl | rfl | rfl
  all_goals
    go_enter Try.func11, Try.ntmps11
    go_wp2
    go_ret
    exact ⟨rfl, rfl⟩

/-- what the bound on bytes says when it says yes -/
def Bound (n m : Nat) (Ls : List (List Int)) : Prop := n ≤ 1048576 ∧ m ≤ 1048576 ∧ ∀ i, i < m → (Ls.getD i []).length ≤ 1048576

def bytePost (n m : Nat) (Ls : List (List Int)) (w : World) (e : Ending) (w' : World) : Prop := ∃ r, e = .returned (.bool r) ∧ (r = true → Bound n m Ls) ∧ w' = w
theorem bytePost_no {n m : Nat} {Ls : List (List Int)} {w : World} : bytePost n m Ls w (.returned (.bool false)) w := ⟨false, rfl, fun h => absurd h (by decide), rfl⟩
theorem bytePost_yes {n m : Nat} {Ls : List (List Int)} {w : World} (h : Bound n m Ls) : bytePost n m Ls w (.returned (.bool true)) w := ⟨true, rfl, fun _ => h, rfl⟩

set_option maxHeartbeats 800000 in
theorem bytes13_any (a1 a2 : Option Addr) (n c m d : Nat) (x y : Int) (vs : List Value) (Ls : List (List Int)) (w : World) (hn : n ≤ 9223372036854775807) (hm0 : m ≤ 9223372036854775807) (hm : vs.length = m) (h2 : RowsIn w a2 vs Ls) :
    Calls Try.prog 13 #[.slice a1 n c, .slice a2 m d, .int .i64 x, .int .i64 y] w fun e w' => bytePost n m Ls w e w' := by
  have H2 : Hid (RowsIn w a2 vs Ls) := h2
  have HM : Hid (vs.length = m) := hm
  clear h2 hm
  by_cases c1 : 1048576 < n
  · go_enter Try.func13, Try.ntmps13
    go_wp2
    go_ret
    exact bytePost_no
  by_cases c2 : 1048576 < m
  · go_enter Try.func13, Try.ntmps13
    go_wp2
    go_ret
    exact bytePost_no
  by_cases c3 : 1048576 < n + m
  · go_enter Try.func13, Try.ntmps13
    go_wp2
    go_ret
    exact bytePost_no
  go_enter Try.func13, Try.ntmps13
  go_wp2
  go_loop [9, 10] (fun z i => ∃ (k : Nat) (t : Int), k ≤ m ∧ i = .int .i64 k ∧ z = .int .i64 t ∧ 0 ≤ t ∧ t ≤ 1048576 ∧ Hid (∀ i, i < k → (Ls.getD i []).length ≤ 1048576)) (fun _ i => m - (intOf i).toNat)
  case atStart => exact ⟨0, (n : Int) + m, by omega, rfl, rfl, by omega, by omega, fun i hi => by omega⟩
  case round =>
    obtain ⟨k, t, hk, rfl, rfl, t0, t1, HK⟩ := hrel
    by_cases hlt : k < m
    · obtain ⟨b, off, rfl, hb, hcells⟩ := H2.out.2.2 (by have := HM.out; omega)
      have hck := hcells k (by have := HM.out; omega)
      obtain ⟨ak, ck, e1, e2, e3, e4, e5⟩ := H2.out.2.1 k (by have := HM.out; omega)
      rw [e1] at hck
      clear hcells e1 e4 e5
      have HQ : Hid ((Ls.getD k []).length = (Ls.getD k []).length) := rfl
      generalize hq : (Ls.getD k []).length = q at *
      have HQ : Hid ((Ls.getD k []).length = q) := hq
      clear hq
      by_cases d1 : 1048576 < q
      · go_wp2
        go_ret
        exact bytePost_no
      by_cases d2 : 1048576 < t + q
      · go_wp2
        go_ret
        exact bytePost_no
      have HK' : Hid (∀ i, i < k + 1 → (Ls.getD i []).length ≤ 1048576) := fun i hi => by
        by_cases e : i = k
        · subst e; have := HQ.out; omega
        · exact HK.out i (by omega)
      go_wp2
      go_round
      case rel => exact ⟨k + 1, t + q, by omega, by go_num, rfl, by omega, by omega, HK'.out⟩
      case measure => simp [intOf]; omega
    · go_wp2
      go_ret
      exact bytePost_yes ⟨by omega, by omega, fun i hi => HK.out i (by omega)⟩

set_option maxHeartbeats 800000 in
theorem bytes9_any (a1 a2 : Option Addr) (n c m d : Nat) (vs : List Value) (Ls : List (List Int)) (w : World) (hn : n ≤ 9223372036854775807) (hm0 : m ≤ 9223372036854775807) (hm : vs.length = m) (h2 : RowsIn w a2 vs Ls) :
    Calls Try.prog 9 #[.slice a1 n c, .slice a2 m d] w fun e w' => bytePost n m Ls w e w' := by
  have H2 : Hid (RowsIn w a2 vs Ls) := h2
  have HM : Hid (vs.length = m) := hm
  clear h2 hm
  by_cases c1 : 1048576 < n
  · go_enter Try.func9, Try.ntmps9
    go_wp2
    go_ret
    exact bytePost_no
  by_cases c2 : 1048576 < m
  · go_enter Try.func9, Try.ntmps9
    go_wp2
    go_ret
    exact bytePost_no
  by_cases c3 : 1048576 < n + m
  · go_enter Try.func9, Try.ntmps9
    go_wp2
    go_ret
    exact bytePost_no
  go_enter Try.func9, Try.ntmps9
  go_wp2
  go_loop [5, 6] (fun z i => ∃ (k : Nat) (t : Int), k ≤ m ∧ i = .int .i64 k ∧ z = .int .i64 t ∧ 0 ≤ t ∧ t ≤ 1048576 ∧ Hid (∀ i, i < k → (Ls.getD i []).length ≤ 1048576)) (fun _ i => m - (intOf i).toNat)
  case atStart => exact ⟨0, (n : Int) + m, by omega, rfl, rfl, by omega, by omega, fun i hi => by omega⟩
  case round =>
    obtain ⟨k, t, hk, rfl, rfl, t0, t1, HK⟩ := hrel
    by_cases hlt : k < m
    · obtain ⟨b, off, rfl, hb, hcells⟩ := H2.out.2.2 (by have := HM.out; omega)
      have hck := hcells k (by have := HM.out; omega)
      obtain ⟨ak, ck, e1, e2, e3, e4, e5⟩ := H2.out.2.1 k (by have := HM.out; omega)
      rw [e1] at hck
      clear hcells e1 e4 e5
      have HQ : Hid ((Ls.getD k []).length = (Ls.getD k []).length) := rfl
      generalize hq : (Ls.getD k []).length = q at *
      have HQ : Hid ((Ls.getD k []).length = q) := hq
      clear hq
      by_cases d1 : 1048576 < q
      · go_wp2
        go_ret
        exact bytePost_no
      by_cases d2 : 1048576 < t + q
      · go_wp2
        go_ret
        exact bytePost_no
      have HK' : Hid (∀ i, i < k + 1 → (Ls.getD i []).length ≤ 1048576) := fun i hi => by
        by_cases e : i = k
        · subst e; have := HQ.out; omega
        · exact HK.out i (by omega)
      go_wp2
      go_round
      case rel => exact ⟨k + 1, t + q, by omega, by go_num, rfl, by omega, by omega, HK'.out⟩
      case measure => simp [intOf]; omega
    · go_wp2
      go_ret
      exact bytePost_yes ⟨by omega, by omega, fun i hi => HK.out i (by omega)⟩
end Go.Proofs.Qxb6618072a

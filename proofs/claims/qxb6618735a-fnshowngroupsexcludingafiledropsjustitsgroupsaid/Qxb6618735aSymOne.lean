/- seat b6618735a: slices.symMergeCmpFunc where one of the two runs is a single element -/
import Derived.Test.Qxb6618735aInsert
namespace Go.Proofs.Qxb6618735a
open Go.RowKit

def symPost (Gb ln : Nat → Nat) (w0 : World) (blk : Nat) (cf : Nat → Nat → Int) (P X Y S : List Nat) (e : Ending) (w' : World) : Prop :=
  e = .returned (.tuple #[]) ∧ ∃ Z : List Nat, Z.Perm (X ++ Y) ∧ Sd (ltc cf) Z ∧ Srt Gb ln w0 blk (P ++ Z ++ S) w'

theorem Sd.get {lt : Nat → Nat → Bool} {l : List Nat} (h : Sd lt l) (i j : Nat) (hij : i < j) (hj : j < l.length) : Tlt lt (l.getD i 0) (l.getD j 0) := by
  have := List.pairwise_iff_getElem.1 h i j (by omega) hj hij
  have hi : i < l.length := by omega
  simpa [hi, hj] using this

theorem mem_take_getD {l : List Nat} {k z : Nat} (h : z ∈ l.take k) : ∃ i, i < k ∧ i < l.length ∧ z = l.getD i 0 := by
  obtain ⟨i, hi, rfl⟩ := List.getElem_of_mem h
  simp at hi
  exact ⟨i, by omega, by omega, by simp [show i < l.length by omega]⟩
theorem mem_drop_getD {l : List Nat} {k z : Nat} (h : z ∈ l.drop k) : ∃ i, k ≤ i ∧ i < l.length ∧ z = l.getD i 0 := by
  obtain ⟨i, hi, rfl⟩ := List.getElem_of_mem h
  simp at hi
  exact ⟨k + i, by omega, by omega, by simp [show k + i < l.length by omega]⟩

theorem getD_mem {l : List Nat} {i : Nat} (h : i < l.length) : l.getD i 0 ∈ l := by simp [h]

/-- the search's state over a sorted run Y: below i all lie before x, from j on all behind it -/
def Bs (lt : Nat → Nat → Bool) (Y : List Nat) (x i j : Nat) : Prop := i ≤ j ∧ j ≤ Y.length ∧ (∀ k, k < i → Tlt lt (Y.getD k 0) x) ∧ (∀ k, j ≤ k → k < Y.length → Tlt lt x (Y.getD k 0))

theorem Bs.up {lt : Nat → Nat → Bool} {Y : List Nat} {x i j : Nat} (o : Swo lt) (hs : Sd lt Y) (h : Bs lt Y x i j) (hij : i < j) (ht : Tlt lt (Y.getD ((i + j) / 2) 0) x) : Bs lt Y x ((i + j) / 2 + 1) j := by
  obtain ⟨h1, h2, h3, h4⟩ := h
  refine ⟨by omega, h2, fun k hk => ?_, h4⟩
  by_cases e : k = (i + j) / 2
  · rw [e]; exact ht
  · exact (hs.get k ((i + j) / 2) (by omega) (by omega)).trans o ht
theorem Bs.down {lt : Nat → Nat → Bool} {Y : List Nat} {x i j : Nat} (o : Swo lt) (hs : Sd lt Y) (h : Bs lt Y x i j) (hij : i < j) (ht : Tlt lt x (Y.getD ((i + j) / 2) 0)) : Bs lt Y x i ((i + j) / 2) := by
  obtain ⟨h1, h2, h3, h4⟩ := h
  refine ⟨by omega, by omega, h3, fun k hk hl => ?_⟩
  by_cases e : k = (i + j) / 2
  · rw [e]; exact ht
  · exact ht.trans o (hs.get ((i + j) / 2) k (by omega) hl)
theorem Bs.done {lt : Nat → Nat → Bool} {Y : List Nat} {x i : Nat} (hs : Sd lt Y) (h : Bs lt Y x i i) : Sd lt (Y.take i ++ [x] ++ Y.drop i) := by
  obtain ⟨_, _, h3, h4⟩ := h
  refine Sd.insert (by rw [List.take_append_drop]; exact hs) (fun z hz => ?_) (fun z hz => ?_)
  · obtain ⟨k, hk, _, rfl⟩ := mem_take_getD hz; exact h3 k hk
  · obtain ⟨k, hk, hl, rfl⟩ := mem_drop_getD hz; exact h4 k hk hl

/-- x moved on over one element -/
theorem move_up (P Y S : List Nat) (x t k : Nat) (ht : t < Y.length) (hk : P.length + t = k) :
    swp (P ++ (Y.take t ++ [x] ++ Y.drop t) ++ S) k (k + 1) = P ++ (Y.take (t + 1) ++ [x] ++ Y.drop (t + 1)) ++ S := by
  have e := swp_adj (P ++ Y.take t) (Y.drop (t + 1) ++ S) x (Y.getD t 0) (k + 1) (by simp; omega)
  have hd : Y.drop t = Y.getD t 0 :: Y.drop (t + 1) := by rw [List.drop_eq_getElem_cons ht]; simp [ht]
  have hk' : Y.take (t + 1) = Y.take t ++ [Y.getD t 0] := by rw [List.take_succ_eq_append_getElem ht]; simp [ht]
  have hc : ∀ d : List Nat, k < d.length → k + 1 < d.length → swp d k (k + 1) = swp d (k + 1) k := fun d h1 h2 => by
    apply ext_getD
    · simp [swp_length]
    · intro i hi
      rw [swp_get _ _ _ _ h1 h2, swp_get _ _ _ _ h2 h1]
      repeat' split
      all_goals first | omega | rfl
  rw [hc _ (by simp; omega) (by simp; omega), hk']
  rw [show k + 1 - 1 = k by omega] at e
  rw [hd]
  have e2 : P ++ (Y.take t ++ [x] ++ Y.getD t 0 :: Y.drop (t + 1)) ++ S = P ++ Y.take t ++ [x] ++ [Y.getD t 0] ++ (Y.drop (t + 1) ++ S) := by simp
  rw [e2, e]; simp

/-- x moved back over one element -/
theorem move_down (P X S : List Nat) (x t k : Nat) (ht : t < X.length) (hk : P.length + t + 1 = k) :
    swp (P ++ (X.take (t + 1) ++ [x] ++ X.drop (t + 1)) ++ S) k (k - 1) = P ++ (X.take t ++ [x] ++ X.drop t) ++ S := by
  have e := swp_adj (P ++ X.take t) (X.drop (t + 1) ++ S) (X.getD t 0) x k (by simp; omega)
  have hd : X.drop t = X.getD t 0 :: X.drop (t + 1) := by rw [List.drop_eq_getElem_cons ht]; simp [ht]
  have hk' : X.take (t + 1) = X.take t ++ [X.getD t 0] := by rw [List.take_succ_eq_append_getElem ht]; simp [ht]
  rw [hd, hk']
  have e2 : P ++ (X.take t ++ [X.getD t 0] ++ [x] ++ X.drop (t + 1)) ++ S = P ++ X.take t ++ [X.getD t 0] ++ [x] ++ (X.drop (t + 1) ++ S) := by simp
  rw [e2, e]; simp

theorem hide {p : Prop} (h : p) : Hid p := h
theorem Srt.swp {Gb ln : Nat → Nat} {w0 w : World} {blk : Nat} {d : List Nat} (h : Srt Gb ln w0 blk d w) (i j : Nat) (hi : i < d.length) (hj : j < d.length) :
    Srt Gb ln w0 blk (swp d i j) ((w.setCell ⟨blk, i, none⟩ (encG Gb ln (d.getD j 0))).setCell ⟨blk, j, none⟩ (encG Gb ln (d.getD i 0))) :=
  (h.set i _ hi).set j _ (by simpa using hj)

theorem perm_ins (Y : List Nat) (x t : Nat) : (Y.take t ++ [x] ++ Y.drop t).Perm ([x] ++ Y) := by
  have h : (Y.take t ++ [x]).Perm ([x] ++ Y.take t) := List.perm_append_comm
  have := h.append_right (Y.drop t)
  rwa [List.append_assoc [x], List.take_append_drop] at this

set_option maxHeartbeats 1600000 in
set_option maxRecDepth 100000 in
theorem sym_left (Gb ln : Nat → Nat) (w0 w : World) (blk cap : Nat) (V : Nat → Prop) (cf : Nat → Nat → Int) (o : Swo (ltc cf)) (P Y S : List Nat) (x N a m b : Nat) (hN : (P ++ [x] ++ Y ++ S).length = N) (hd : N ≤ 4096) (ha : P.length = a) (hm : a + 1 = m) (hb : m + Y.length = b)
    (hy0 : 0 < Y.length) (hsd : Sd (ltc cf) Y) (hxy : ∀ y, y ∈ Y → x < y) (hVx : V x) (hV : ∀ y, y ∈ Y → V y) (hc : CmpOk Gb ln w0 blk V cf) (h : Srt Gb ln w0 blk (P ++ [x] ++ Y ++ S) w) :
    Calls Try.prog 32 #[.slice (some ⟨blk, 0, none⟩) N cap, .int .i64 a, .int .i64 m, .int .i64 b, .func (.func 24) #[] #[]] w fun e w' => symPost Gb ln w0 blk cf P [x] Y S e w' := by
  have H : Hid (Srt Gb ln w0 blk (P ++ [x] ++ Y ++ S) w) := h
  have HC : Hid (CmpOk Gb ln w0 blk V cf) := hc
  have HF : Hid (P.length = a ∧ m + Y.length = b ∧ (P ++ [x] ++ Y ++ S).length = N) := ⟨ha, hb, hN⟩
  have HY : Hid (Sd (ltc cf) Y ∧ (∀ y, y ∈ Y → x < y) ∧ V x ∧ (∀ y, y ∈ Y → V y)) := ⟨hsd, hxy, hVx, hV⟩
  have hbN : b ≤ N := by simp at hN; omega
  have hmb : m < b := by omega
  have t1 : ((m : Int) - (a : Int) == 1) = true := by simp; omega
  have q1 : (a : Int) + 1 = (m : Int) := by omega
  have HQ1 : Hid ((a : Int) + 1 = (m : Int)) := q1
  have am : a < m := by omega
  clear h hc ha hb hN hsd hxy hVx hV hm q1 hy0
  go_enter Try.func32, Try.ntmps32
  go_wp2
  go_loopw [10, 11] (fun u v wr => ∃ i j : Nat, m + j ≤ b ∧ u = .int .i64 ((m + i : Nat) : Int) ∧ v = .int .i64 ((m + j : Nat) : Int) ∧ Hid (Bs (ltc cf) Y x i j) ∧ Hid (Srt Gb ln w0 blk (P ++ [x] ++ Y ++ S) wr)) (fun u v _ => (intOf v - intOf u).toNat)
  case atStart => exact ⟨0, Y.length, by have := HF.out; omega, by go_num, by have := HF.out; rw [this.2.1], ⟨by omega, by omega, fun k hk => by omega, fun k h1 h2 => by omega⟩, H.out⟩
  case round =>
    obtain ⟨i, j, hjb, rfl, rfl, HB, HS⟩ := hrel
    by_cases hij : i < j
    · obtain ⟨hF1, hF2, hF3⟩ := HF.out
      have hh1 : (i + j) / 2 < Y.length := by have := HB.out.2.1; omega
      have ch := HS.out.cell (m + (i + j) / 2) (by omega)
      have ca := HS.out.cell a (by omega)
      have gh : (P ++ [x] ++ Y ++ S).getD (m + (i + j) / 2) 0 = Y.getD ((i + j) / 2) 0 := by
        have := HQ1.out
        simp only [getD_append, List.length_append, List.length_singleton]
        rw [if_pos (by omega), if_neg (by omega)]; congr 1; omega
      have ga : (P ++ [x] ++ Y ++ S).getD a 0 = x := by
        simp only [getD_append, List.length_append, List.length_singleton]
        rw [if_pos (by omega), if_pos (by omega), if_neg (by omega), show a - P.length = 0 by omega]; rfl
      rw [gh] at ch
      rw [ga] at ca
      obtain ⟨y1, y2, y3, y4⟩ := HY.out
      have hym := getD_mem hh1
      have HQ : Hid (∀ n, Calls Try.prog 24 #[encG Gb ln (Y.getD ((i + j) / 2) 0), encG Gb ln x] (wr.drewN n) fun e w'' => e = .returned (.int .i64 (cf (Y.getD ((i + j) / 2) 0) x)) ∧ ∃ m, w'' = wr.drewN m) := fun n => HC.out.quiet HS.out (y4 _ hym) y3 n
      have HUP : Hid (cf (Y.getD ((i + j) / 2) 0) x < 0 → Bs (ltc cf) Y x ((i + j) / 2 + 1) j) := fun hcf => HB.out.up o y1 hij (Tlt.of_lt (decide_eq_true hcf))
      have HDN : Hid (¬ cf (Y.getD ((i + j) / 2) 0) x < 0 → Bs (ltc cf) Y x i ((i + j) / 2)) := fun hcf => HB.out.down o y1 hij (Tlt.of_not (decide_eq_false hcf) (y2 _ hym))
      obtain ⟨H, hH⟩ : ∃ H, H = m + (i + j) / 2 := ⟨_, rfl⟩
      have hHr : ((m : Int) + (i : Int) + ((m : Int) + (j : Int))) / 2 = (H : Int) := by omega
      have hh : H < N := by omega
      have HHd : Hid (H = m + (i + j) / 2) := hH
      rw [← hH] at ch
      clear gh ga y1 y2 y3 y4 hym hF1 hF2 hF3 hh1 hH
      generalize Y.getD ((i + j) / 2) 0 = z at *
      by_cases hcf : cf z x < 0
      · go_wp2
        go_quiet ((go_at_call 24; exact HQ.out _))
        go_wp2
        go_roundw
        case rel => exact ⟨(i + j) / 2 + 1, j, by omega, by have := HHd.out; go_num, rfl, HUP.out hcf, HS.out.drewN nq⟩
        case measure => have := HHd.out; simp [intOf]; omega
      · have i4 : decide (cf z x < 0) = false := decide_eq_false hcf
        go_wp2
        go_quiet ((go_at_call 24; exact HQ.out _))
        go_wp2
        go_roundw
        case rel => exact ⟨i, (i + j) / 2, by omega, rfl, by have := HHd.out; go_num, HDN.out hcf, HS.out.drewN nq⟩
        case measure => have := HHd.out; simp [intOf]; omega
    · obtain rfl : i = j := by have := HB.out.1; omega
      have hil : i ≤ Y.length := HB.out.2.1
      have HZ : Hid (Sd (ltc cf) (Y.take i ++ [x] ++ Y.drop i)) := HB.out.done HY.out.1
      have hs0 : Srt Gb ln w0 blk (P ++ (Y.take 0 ++ [x] ++ Y.drop 0) ++ S) wr := by simpa using HS.out
      have HS0 : Hid (Srt Gb ln w0 blk (P ++ (Y.take 0 ++ [x] ++ Y.drop 0) ++ S) wr) := hs0
      clear hs0
      clear HB HS
      go_wp2
      go_loopw [13] (fun u wr => ∃ t : Nat, t ≤ i ∧ u = .int .i64 ((a + t : Nat) : Int) ∧ Hid (Srt Gb ln w0 blk (P ++ (Y.take t ++ [x] ++ Y.drop t) ++ S) wr)) (fun u _ => (b - intOf u).toNat)
      case atStart => exact ⟨0, by omega, by go_num, HS0.out⟩
      case round =>
        obtain ⟨t, hti, rfl, HS⟩ := hrel
        have q1 := HQ1.out
        by_cases ht : t < i
        · obtain ⟨hF1, hF2, hF3⟩ := HF.out
          have hln : (P ++ (Y.take t ++ [x] ++ Y.drop t) ++ S).length = N := by simp at hF3 ⊢; omega
          have ck := HS.out.cell (a + t) (by omega)
          have ck1 := HS.out.cell (a + t + 1) (by omega)
          have fk := HS.out.free (a + t)
          have fk1 := HS.out.free (a + t + 1)
          have S1 := HS.out.swp (a + t) (a + t + 1) (by omega) (by omega)
          rw [move_up P Y S x t (a + t) (by omega) (by omega)] at S1
          have HS1 := hide S1
          clear S1 hF1 hF2 hF3 hln
          generalize (P ++ (Y.take t ++ [x] ++ Y.drop t) ++ S).getD (a + t) 0 = u0 at *
          generalize (P ++ (Y.take t ++ [x] ++ Y.drop t) ++ S).getD (a + t + 1) 0 = u1 at *
          go_wp2
          go_region
          all_goals go_wp2
          go_roundw
          case rel => exact ⟨t + 1, by omega, by go_num, HS1.out.drew⟩
          case measure => simp [intOf]; omega
        · obtain rfl : t = i := by omega
          have HP : Hid (∃ Z : List Nat, Z.Perm ([x] ++ Y) ∧ Sd (ltc cf) Z ∧ Srt Gb ln w0 blk (P ++ Z ++ S) wr) := ⟨_, perm_ins Y x t, HZ.out, HS.out⟩
          go_wp2
          go_end0
          exact ⟨rfl, HP.out⟩

set_option maxHeartbeats 1600000 in
set_option maxRecDepth 100000 in
theorem sym_right (Gb ln : Nat → Nat) (w0 w : World) (blk cap : Nat) (V : Nat → Prop) (cf : Nat → Nat → Int) (o : Swo (ltc cf)) (P X S : List Nat) (y N a m b : Nat) (hN : (P ++ X ++ [y] ++ S).length = N) (hd : N ≤ 4096) (ha : P.length = a) (hm : a + X.length = m) (hb : m + 1 = b)
    (hx0 : 1 < X.length) (hsd : Sd (ltc cf) X) (hxy : ∀ x, x ∈ X → x < y) (hVy : V y) (hV : ∀ x, x ∈ X → V x) (hc : CmpOk Gb ln w0 blk V cf) (h : Srt Gb ln w0 blk (P ++ X ++ [y] ++ S) w) :
    Calls Try.prog 32 #[.slice (some ⟨blk, 0, none⟩) N cap, .int .i64 a, .int .i64 m, .int .i64 b, .func (.func 24) #[] #[]] w fun e w' => symPost Gb ln w0 blk cf P X [y] S e w' := by
  have H : Hid (Srt Gb ln w0 blk (P ++ X ++ [y] ++ S) w) := h
  have HC : Hid (CmpOk Gb ln w0 blk V cf) := hc
  have HF : Hid (P.length = a ∧ a + X.length = m ∧ (P ++ X ++ [y] ++ S).length = N) := ⟨ha, hm, hN⟩
  have HY : Hid (Sd (ltc cf) X ∧ (∀ x, x ∈ X → x < y) ∧ V y ∧ (∀ x, x ∈ X → V x)) := ⟨hsd, hxy, hVy, hV⟩
  have hbN : b ≤ N := by simp at hN; omega
  have ham : a + 1 < m := by omega
  have t1 : ((m : Int) - (a : Int) == 1) = false := by simp; omega
  have t2 : ((b : Int) - (m : Int) == 1) = true := by simp; omega
  have hmN : m < N := by omega
  clear h hc ha hb hN hsd hxy hVy hV hm hx0
  go_enter Try.func32, Try.ntmps32
  go_wp2
  go_loopw [14, 15] (fun u v wr => ∃ i j : Nat, a + j ≤ m ∧ u = .int .i64 ((a + i : Nat) : Int) ∧ v = .int .i64 ((a + j : Nat) : Int) ∧ Hid (Bs (ltc cf) X y i j) ∧ Hid (Srt Gb ln w0 blk (P ++ X ++ [y] ++ S) wr)) (fun u v _ => (intOf v - intOf u).toNat)
  case atStart => exact ⟨0, X.length, by have := HF.out; omega, by go_num, by have := HF.out; rw [this.2.1], ⟨by omega, by omega, fun k hk => by omega, fun k h1 h2 => by omega⟩, H.out⟩
  case round =>
    obtain ⟨i, j, hjb, rfl, rfl, HB, HS⟩ := hrel
    by_cases hij : i < j
    · obtain ⟨hF1, hF2, hF3⟩ := HF.out
      have hh1 : (i + j) / 2 < X.length := by have := HB.out.2.1; omega
      have ch := HS.out.cell (a + (i + j) / 2) (by omega)
      have cm := HS.out.cell m (by omega)
      have gh : (P ++ X ++ [y] ++ S).getD (a + (i + j) / 2) 0 = X.getD ((i + j) / 2) 0 := by
        simp only [getD_append, List.length_append, List.length_singleton]
        rw [if_pos (by omega), if_pos (by omega), if_neg (by omega)]; congr 1; omega
      have ga : (P ++ X ++ [y] ++ S).getD m 0 = y := by
        simp only [getD_append, List.length_append, List.length_singleton]
        rw [if_pos (by omega), if_neg (by omega), show m - (P.length + X.length) = 0 by omega]; rfl
      rw [gh] at ch
      rw [ga] at cm
      obtain ⟨y1, y2, y3, y4⟩ := HY.out
      have hym := getD_mem hh1
      have HQ : Hid (∀ n, Calls Try.prog 24 #[encG Gb ln y, encG Gb ln (X.getD ((i + j) / 2) 0)] (wr.drewN n) fun e w'' => e = .returned (.int .i64 (cf y (X.getD ((i + j) / 2) 0))) ∧ ∃ m, w'' = wr.drewN m) := fun n => HC.out.quiet HS.out y3 (y4 _ hym) n
      have HUP : Hid (¬ cf y (X.getD ((i + j) / 2) 0) < 0 → Bs (ltc cf) X y ((i + j) / 2 + 1) j) := fun hcf => HB.out.up o y1 hij (Tlt.of_not (decide_eq_false hcf) (y2 _ hym))
      have HDN : Hid (cf y (X.getD ((i + j) / 2) 0) < 0 → Bs (ltc cf) X y i ((i + j) / 2)) := fun hcf => HB.out.down o y1 hij (Tlt.of_lt (decide_eq_true hcf))
      obtain ⟨H, hH⟩ : ∃ H, H = a + (i + j) / 2 := ⟨_, rfl⟩
      have hHr : ((a : Int) + (i : Int) + ((a : Int) + (j : Int))) / 2 = (H : Int) := by omega
      have hh : H < N := by omega
      have HHd : Hid (H = a + (i + j) / 2) := hH
      rw [← hH] at ch
      clear gh ga y1 y2 y3 y4 hym hF1 hF2 hF3 hh1 hH
      generalize X.getD ((i + j) / 2) 0 = z at *
      by_cases hcf : cf y z < 0
      · go_wp2
        go_quiet ((go_at_call 24; exact HQ.out _))
        go_wp2
        go_roundw
        case rel => exact ⟨i, (i + j) / 2, by omega, rfl, by have := HHd.out; go_num, HDN.out hcf, HS.out.drewN nq⟩
        case measure => have := HHd.out; simp [intOf]; omega
      · have i4 : decide (cf y z < 0) = false := decide_eq_false hcf
        go_wp2
        go_quiet ((go_at_call 24; exact HQ.out _))
        go_wp2
        go_roundw
        case rel => exact ⟨(i + j) / 2 + 1, j, by omega, by have := HHd.out; go_num, rfl, HUP.out hcf, HS.out.drewN nq⟩
        case measure => have := HHd.out; simp [intOf]; omega
    · obtain rfl : i = j := by have := HB.out.1; omega
      have hil : i ≤ X.length := HB.out.2.1
      have HZ : Hid (Sd (ltc cf) (X.take i ++ [y] ++ X.drop i)) := HB.out.done HY.out.1
      have hs0 : Srt Gb ln w0 blk (P ++ (X.take X.length ++ [y] ++ X.drop X.length) ++ S) wr := by simpa using HS.out
      have HS0 : Hid (Srt Gb ln w0 blk (P ++ (X.take X.length ++ [y] ++ X.drop X.length) ++ S) wr) := hs0
      clear HB HS hs0
      go_wp2
      go_loopw [17] (fun u wr => ∃ t : Nat, i ≤ t ∧ a + t ≤ m ∧ u = .int .i64 ((a + t : Nat) : Int) ∧ Hid (Srt Gb ln w0 blk (P ++ (X.take t ++ [y] ++ X.drop t) ++ S) wr)) (fun u _ => (intOf u).toNat)
      case atStart => exact ⟨X.length, by omega, by have := HF.out; omega, by have := HF.out; go_num, HS0.out⟩
      case round =>
        obtain ⟨t, hti, htm, rfl, HS⟩ := hrel
        by_cases ht : i < t
        · obtain ⟨hF1, hF2, hF3⟩ := HF.out
          obtain ⟨t', rfl⟩ : ∃ t', t = t' + 1 := ⟨t - 1, by omega⟩
          have hln : (P ++ (X.take (t' + 1) ++ [y] ++ X.drop (t' + 1)) ++ S).length = N := by simp at hF3 ⊢; omega
          have ck := HS.out.cell (a + (t' + 1)) (by omega)
          have ck1 := HS.out.cell (a + (t' + 1) - 1) (by omega)
          have fk := HS.out.free (a + (t' + 1))
          have fk1 := HS.out.free (a + (t' + 1) - 1)
          have S1 := HS.out.swp (a + (t' + 1)) (a + (t' + 1) - 1) (by omega) (by omega)
          rw [move_down P X S y t' (a + (t' + 1)) (by omega) (by omega)] at S1
          have HS1 := hide S1
          clear S1 hF1 hF2 hF3 hln
          generalize (P ++ (X.take (t' + 1) ++ [y] ++ X.drop (t' + 1)) ++ S).getD (a + (t' + 1)) 0 = u0 at *
          generalize (P ++ (X.take (t' + 1) ++ [y] ++ X.drop (t' + 1)) ++ S).getD (a + (t' + 1) - 1) 0 = u1 at *
          obtain ⟨K, hK⟩ : ∃ K, K = a + t' := ⟨_, rfl⟩
          rw [show a + (t' + 1) - 1 = K by omega] at ck1 fk1 HS1
          rw [show a + (t' + 1) = K + 1 by omega] at ck fk HS1 htm ⊢
          have HK : Hid (K = a + t') := hK
          have iK : (i : Int) + (a : Int) ≤ (K : Int) := by omega
          have iN : (K : Int) + 1 < (N : Int) := by omega
          clear hK ht hti
          go_wp2
          go_region
          all_goals go_wp2
          go_roundw
          case rel => exact ⟨t', by have := HK.out; omega, by have := HK.out; omega, by have := HK.out; go_num, HS1.out.drew⟩
          case measure => simp [intOf]
        · obtain rfl : t = i := by omega
          have HP : Hid (∃ Z : List Nat, Z.Perm (X ++ [y]) ∧ Sd (ltc cf) Z ∧ Srt Gb ln w0 blk (P ++ Z ++ S) wr) := ⟨_, (perm_ins X y t).trans List.perm_append_comm, HZ.out, HS.out⟩
          go_wp2
          go_end0
          exact ⟨rfl, HP.out⟩
end Go.Proofs.Qxb6618735a

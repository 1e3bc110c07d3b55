/- seat b6618735a: slices.rotateCmpFunc -/
import Derived.Test.Qxb6618735aSrt
namespace Go.Proofs.Qxb6618735a
open Go.RowKit

theorem swap_step1 (P X1 X2 Y S : List Nat) (h : X1.length = Y.length) : swps (P ++ (X1 ++ X2) ++ Y ++ S) P.length (P.length + (X1 ++ X2).length) Y.length = (P ++ Y) ++ X2 ++ X1 ++ S := by
  have := swps_lists P X1 X2 Y S Y.length h rfl
  rw [show P ++ (X1 ++ X2) ++ Y ++ S = P ++ X1 ++ X2 ++ Y ++ S by simp, show P.length + (X1 ++ X2).length = P.length + Y.length + X2.length by simp; omega, this]
theorem swap_step2 (P X Y1 Y2 S : List Nat) (h : Y2.length = X.length) : swps (P ++ X ++ (Y1 ++ Y2) ++ S) P.length (P.length + X.length + Y1.length) X.length = P ++ Y2 ++ Y1 ++ (X ++ S) := by
  have := swps_lists P X Y1 Y2 S X.length rfl h
  rw [show P ++ X ++ (Y1 ++ Y2) ++ S = P ++ X ++ Y1 ++ Y2 ++ S by simp, this]
  simp

/-- the loop's state: what is still to be exchanged -/
structure Rot (Gb ln : Nat → Nat) (w0 : World) (blk m N : Nat) (T : List Nat) (i j : Nat) (w : World) : Prop where
  ex : ∃ P X Y S : List Nat, Srt Gb ln w0 blk (P ++ X ++ Y ++ S) w ∧ X.length = i ∧ Y.length = j ∧ P.length + X.length = m ∧ P ++ Y ++ X ++ S = T ∧ (P ++ X ++ Y ++ S).length = N

theorem Rot.more {Gb ln : Nat → Nat} {w0 : World} {blk m N : Nat} {T : List Nat} {i j : Nat} {w : World} (h : Rot Gb ln w0 blk m N T i j w) (hij : j < i) :
    ∃ d a, d.length = N ∧ a = m - i ∧ i ≤ m ∧ m + j ≤ N ∧ Srt Gb ln w0 blk d w ∧ ∀ w', Srt Gb ln w0 blk (swps d a m j) w' → Rot Gb ln w0 blk m N T (i - j) j w' := by
  obtain ⟨P, X, Y, S, h1, h2, h3, h4, h5, h6⟩ := h.ex
  refine ⟨_, P.length, h6, by omega, by omega, by simp at h6; omega, h1, fun w' h' => ?_⟩
  have hx : X.take j ++ X.drop j = X := List.take_append_drop j X
  have e := swap_step1 P (X.take j) (X.drop j) Y S (by simp; omega)
  rw [hx, h4, h3] at e
  rw [e] at h'
  refine ⟨P ++ Y, X.drop j, X.take j, S, h', by simp; omega, by simp; omega, by simp; omega, ?_, by simp at h6 ⊢; omega⟩
  rw [← h5]
  conv => rhs; rw [← hx]
  simp

theorem Rot.less {Gb ln : Nat → Nat} {w0 : World} {blk m N : Nat} {T : List Nat} {i j : Nat} {w : World} (h : Rot Gb ln w0 blk m N T i j w) (hij : i < j) :
    ∃ d a, d.length = N ∧ a = m - i ∧ i ≤ m ∧ m + j ≤ N ∧ Srt Gb ln w0 blk d w ∧ ∀ w', Srt Gb ln w0 blk (swps d a (m + j - i) i) w' → Rot Gb ln w0 blk m N T i (j - i) w' := by
  obtain ⟨P, X, Y, S, h1, h2, h3, h4, h5, h6⟩ := h.ex
  refine ⟨_, P.length, h6, by omega, by omega, by simp at h6; omega, h1, fun w' h' => ?_⟩
  have hy : Y.take (j - i) ++ Y.drop (j - i) = Y := List.take_append_drop _ Y
  have e := swap_step2 P X (Y.take (j - i)) (Y.drop (j - i)) S (by simp; omega)
  rw [hy, h2, show P.length + i + (Y.take (j - i)).length = m + j - i by simp; omega] at e
  rw [e] at h'
  refine ⟨P, Y.drop (j - i), Y.take (j - i), X ++ S, h', by simp; omega, by simp; omega, by simp; omega, ?_, by simp at h6 ⊢; omega⟩
  rw [← h5]
  conv => rhs; rw [← hy]
  simp

theorem Rot.same {Gb ln : Nat → Nat} {w0 : World} {blk m N : Nat} {T : List Nat} {i : Nat} {w : World} (h : Rot Gb ln w0 blk m N T i i w) :
    ∃ d a, d.length = N ∧ a = m - i ∧ i ≤ m ∧ m + i ≤ N ∧ Srt Gb ln w0 blk d w ∧ swps d a m i = T := by
  obtain ⟨P, X, Y, S, h1, h2, h3, h4, h5, h6⟩ := h.ex
  refine ⟨_, P.length, h6, by omega, by omega, by simp at h6; omega, h1, ?_⟩
  have e := swap_step1 P X [] Y S (by omega)
  rw [List.append_nil, h4, h3] at e
  rw [e, ← h5]; simp

set_option maxHeartbeats 800000 in
theorem rotate_any (Gb ln : Nat → Nat) (w0 w : World) (blk cap : Nat) (P X Y S : List Nat) (fv : Value) (N : Nat) (hN : (P ++ X ++ Y ++ S).length = N) (hd : N ≤ 4096) (hx : 0 < X.length) (hy : 0 < Y.length) (h : Srt Gb ln w0 blk (P ++ X ++ Y ++ S) w)
    (a m b : Nat) (ha : P.length = a) (hm : P.length + X.length = m) (hb : P.length + X.length + Y.length = b) :
    Calls Try.prog 34 #[.slice (some ⟨blk, 0, none⟩) N cap, .int .i64 a, .int .i64 m, .int .i64 b, fv] w fun e w' => e = .returned (.tuple #[]) ∧ Srt Gb ln w0 blk (P ++ Y ++ X ++ S) w' := by
  have H : Hid (Rot Gb ln w0 blk m N (P ++ Y ++ X ++ S) (m - a) (b - m) w) := ⟨P, X, Y, S, h, by omega, by omega, by omega, rfl, hN⟩
  have hbN : b ≤ N := by simp at hN; omega
  have ham : a < m := by omega
  have hmb : m < b := by omega
  generalize P ++ Y ++ X ++ S = T at *
  clear h ha hm hb hN hx hy
  go_enter Try.func34, Try.ntmps34
  go_wp2
  go_loopw [10, 11] (fun x y wr => ∃ i j : Nat, x = .int .i64 i ∧ y = .int .i64 j ∧ 0 < i ∧ 0 < j ∧ i ≤ N ∧ j ≤ N ∧ Hid (Rot Gb ln w0 blk m N T i j wr)) (fun x y _ => (intOf x).toNat + (intOf y).toNat)
  case atStart => exact ⟨m - a, b - m, by go_num, by go_num, by omega, by omega, by omega, by omega, H.out⟩
  case round =>
    obtain ⟨i, j, rfl, rfl, hi, hj, hiN, hjN, HR⟩ := hrel
    by_cases h1 : j < i
    · obtain ⟨d, a', hdN, ha', him, hmj, HS, hnext⟩ := HR.out.more h1
      have tn : ((i : Int) != (j : Int)) = true := by simp; omega
      have c := swapRange_any Gb ln w0 wr blk cap a' m j d fv (by omega) (by omega) (by omega) HS
      rw [hdN, show ((a' : Nat) : Int) = (m : Int) - (i : Int) by omega] at c
      have HX : Hid (∀ w', Srt Gb ln w0 blk (swps d a' m j) w' → Rot Gb ln w0 blk m N T (i - j) j w') := hnext
      clear hnext HS ha'
      go_wp2_with (go_at_call 35; refine c.mono ?_; rintro e w' ⟨rfl, hs⟩; have HS' : Hid (Rot Gb ln w0 blk m N T (i - j) j w') := HX.out w' hs; clear hs)
      go_roundw
      case rel => exact ⟨i - j, j, by go_num, rfl, by omega, by omega, by omega, by omega, by assumption⟩
      case measure => simp [intOf]; omega
    · by_cases h2 : i < j
      · obtain ⟨d, a', hdN, ha', him, hmj, HS, hnext⟩ := HR.out.less h2
        have tn : ((i : Int) != (j : Int)) = true := by simp; omega
        have c := swapRange_any Gb ln w0 wr blk cap a' (m + j - i) i d fv (by omega) (by omega) (by omega) HS
        rw [hdN, show ((a' : Nat) : Int) = (m : Int) - (i : Int) by omega, show ((m + j - i : Nat) : Int) = (m : Int) + (j : Int) - (i : Int) by omega] at c
        have HX : Hid (∀ w', Srt Gb ln w0 blk (swps d a' (m + j - i) i) w' → Rot Gb ln w0 blk m N T i (j - i) w') := hnext
        clear hnext HS ha'
        go_wp2_with (go_at_call 35; refine c.mono ?_; rintro e w' ⟨rfl, hs⟩; have HS' : Hid (Rot Gb ln w0 blk m N T i (j - i) w') := HX.out w' hs; clear hs)
        go_roundw
        case rel => exact ⟨i, j - i, rfl, by go_num, by omega, by omega, by omega, by omega, by assumption⟩
        case measure => simp [intOf]; omega
      · obtain rfl : i = j := by omega
        obtain ⟨d, a', hdN, ha', him, hmj, HS, hT⟩ := HR.out.same
        have c := swapRange_any Gb ln w0 wr blk cap a' m i d fv (by omega) (by omega) (by omega) HS
        rw [hdN, show ((a' : Nat) : Int) = (m : Int) - (i : Int) by omega, hT] at c
        clear HS ha' hT
        go_wp2_with (go_at_call 35; refine c.mono ?_; rintro e w' ⟨rfl, hs⟩; have HS' : Hid (Srt Gb ln w0 blk T w') := hs; clear hs)
        go_end0
        exact ⟨rfl, by assumption⟩
end Go.Proofs.Qxb6618735a

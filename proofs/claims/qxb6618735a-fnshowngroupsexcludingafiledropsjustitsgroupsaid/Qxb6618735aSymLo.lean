/- seat b6618735a: slices.symMergeCmpFunc, two runs of more than one element: the cut in the left half -/
import Derived.Test.Qxb6618735aSymLaw
namespace Go.Proofs.Qxb6618735a
open Go.RowKit

set_option maxHeartbeats 6400000 in
set_option maxRecDepth 100000 in
theorem sym_lo (Gb ln : Nat → Nat) (w0 w : World) (blk cap : Nat) (V : Nat → Prop) (cf : Nat → Nat → Int) (o : Swo (ltc cf)) (P X Y S : List Nat) (N a m b k : Nat) (hd : N ≤ 4096) (ih : SymOk Gb ln w0 blk cap V cf N k) (hk : X.length + Y.length ≤ k + 1)
    (hN : (P ++ X ++ Y ++ S).length = N) (ha : P.length = a) (hm : a + X.length = m) (hb : m + Y.length = b) (hx1 : 1 < X.length) (hy1 : 1 < Y.length) (hlow : 2 * m ≤ a + b) (hpre : SymPre V cf X Y) (hc : CmpOk Gb ln w0 blk V cf) (h : Srt Gb ln w0 blk (P ++ X ++ Y ++ S) w) :
    Calls Try.prog 32 #[.slice (some ⟨blk, 0, none⟩) N cap, .int .i64 a, .int .i64 m, .int .i64 b, .func (.func 24) #[] #[]] w fun e w' => symPost Gb ln w0 blk cf P X Y S e w' := by
  have H : Hid (Srt Gb ln w0 blk (P ++ X ++ Y ++ S) w) := h
  have HC : Hid (CmpOk Gb ln w0 blk V cf) := hc
  have HIH : Hid (SymOk Gb ln w0 blk cap V cf N k) := ih
  have HPRE : Hid (SymPre V cf X Y) := hpre
  obtain ⟨mid, hmd⟩ : ∃ mid, mid = (a + b) / 2 := ⟨_, rfl⟩
  have hmid : ((a : Int) + (b : Int)) / 2 = (mid : Int) := by omega
  have hmid2 : a + b = 2 * mid ∨ a + b = 2 * mid + 1 := by omega
  have HMID : Hid (a + b = 2 * mid ∨ a + b = 2 * mid + 1) := hmid2
  have HF : Hid (P.length = a ∧ a + X.length = m ∧ m + Y.length = b ∧ (P ++ X ++ Y ++ S).length = N ∧ X.length + Y.length ≤ k + 1) := ⟨ha, hm, hb, hN, hk⟩
  have hbN : b ≤ N := by simp at hN; omega
  have am : a + 1 < m := by omega
  have mb : m + 1 < b := by omega
  have mmid : m ≤ mid := by omega
  have amid : a < mid := by omega
  have midb : mid < b := by omega
  have t1 : ((m : Int) - (a : Int) == 1) = false := by simp; omega
  have t2 : ((b : Int) - (m : Int) == 1) = false := by simp; omega
  have HLH : Hid ((a = a ∧ m = m ∧ m ≤ mid) ∨ (a + b = mid + m ∧ m = mid ∧ mid < m)) := .inl ⟨rfl, rfl, by omega⟩
  have dm : decide (mid < m) = false := decide_eq_false (by omega)
  have dm' : decide ((mid : Int) < (m : Int)) = false := decide_eq_false (by omega)
  clear h hc ih hpre hmd hmid2 ha hm hb hN hk hx1 hy1 hlow
  go_enter Try.func32, Try.ntmps32
  go_wp2
  go_loopw [20, 21] (fun u v wr => ∃ s r : Nat, a ≤ s ∧ s ≤ r ∧ r ≤ m ∧ u = .int .i64 (s : Int) ∧ v = .int .i64 (r : Int) ∧ Hid (Sc (ltc cf) X Y a m (mid + m) a m s r) ∧ Hid (Srt Gb ln w0 blk (P ++ X ++ Y ++ S) wr)) (fun u v _ => (intOf v - intOf u).toNat)
  case atStart => exact ⟨a, m, by omega, by omega, by omega, by go_num, by go_num, ⟨by omega, by omega, by omega, .inl rfl, .inl rfl⟩, H.out⟩
  case round =>
    obtain ⟨s, r, hls, hsr, hrh, rfl, rfl, HSC, HS⟩ := hrel
    by_cases hlt : s < r
    · obtain ⟨f1, f2, f3, f4, f5⟩ := HF.out
      have hl2 := HLH.out
      have hm2 := HMID.out
      obtain ⟨c, hcd⟩ : ∃ c, c = (s + r) / 2 := ⟨_, rfl⟩
      have hcr : ((s : Int) + (r : Int)) / 2 = (c : Int) := by omega
      obtain ⟨pc, hpcd⟩ : ∃ pc, pc = mid + m - 1 - c := ⟨_, rfl⟩
      have hpc : (mid : Int) + (m : Int) - 1 - (c : Int) = (pc : Int) := by omega
      have c1 : s ≤ c := by omega
      have c2 : c < r := by omega
      have r1 : a ≤ c := by omega
      have r2 : c < m := by omega
      have r3 : m ≤ pc := by omega
      have r4 : pc < b := by omega
      have cc := HS.out.cell c (by omega)
      have cp := HS.out.cell pc (by omega)
      have gc : (P ++ X ++ Y ++ S).getD c 0 = X.getD (c - a) 0 := by
        simp only [getD_append, List.length_append]
        rw [if_pos (by omega), if_pos (by omega), if_neg (by omega), f1]
      have gp : (P ++ X ++ Y ++ S).getD pc 0 = Y.getD (pc - m) 0 := by
        simp only [getD_append, List.length_append]
        rw [if_pos (by omega), if_neg (by omega)]; congr 1; omega
      rw [gc] at cc
      rw [gp] at cp
      have mx := getD_mem (l := X) (i := c - a) (by omega)
      have my := getD_mem (l := Y) (i := pc - m) (by omega)
      have HQ : Hid (∀ n, Calls Try.prog 24 #[encG Gb ln (Y.getD (pc - m) 0), encG Gb ln (X.getD (c - a) 0)] (wr.drewN n) fun e w'' => e = .returned (.int .i64 (cf (Y.getD (pc - m) 0) (X.getD (c - a) 0))) ∧ ∃ m, w'' = wr.drewN m) := fun n => HC.out.quiet HS.out (HPRE.out.vy _ my) (HPRE.out.vx _ mx) n
      have HUP : Hid (¬ cf (Y.getD (pc - m) 0) (X.getD (c - a) 0) < 0 → Sc (ltc cf) X Y a m (mid + m) a m (c + 1) r) := fun hcf => by
        obtain ⟨s1, s2, s3, s4, s5⟩ := HSC.out
        refine ⟨by omega, by omega, by omega, .inr ?_, s5⟩
        rw [show c + 1 - 1 - a = c - a by omega, show mid + m - (c + 1) - m = pc - m by omega]
        exact Tlt.of_not (decide_eq_false hcf) (HPRE.out.xy _ mx _ my)
      have HDN : Hid (cf (Y.getD (pc - m) 0) (X.getD (c - a) 0) < 0 → Sc (ltc cf) X Y a m (mid + m) a m s c) := fun hcf => by
        obtain ⟨s1, s2, s3, s4, s5⟩ := HSC.out
        refine ⟨by omega, by omega, by omega, s4, .inr ?_⟩
        rw [show mid + m - 1 - c - m = pc - m by omega]
        exact Tlt.of_lt (decide_eq_true hcf)
      have i1 : (pc : Int) < (N : Int) := by omega
      have i2 : (c : Int) < (N : Int) := by omega
      have HCD : Hid (c = (s + r) / 2) := hcd
      clear gc gp mx my f1 f2 f3 f4 f5 hl2 hm2 hcd hpcd r1 r2 r3 r4
      generalize Y.getD (pc - m) 0 = y at *
      generalize X.getD (c - a) 0 = x at *
      by_cases hcf : cf y x < 0
      · go_wp2
        go_quiet ((go_at_call 24; exact HQ.out _))
        go_wp2
        go_roundw
        case rel => exact ⟨s, c, by omega, by omega, by omega, rfl, rfl, HDN.out hcf, HS.out.drewN nq⟩
        case measure => simp [intOf]; omega
      · have i4 : decide (cf y x < 0) = false := decide_eq_false hcf
        go_wp2
        go_quiet ((go_at_call 24; exact HQ.out _))
        go_wp2
        go_roundw
        case rel => exact ⟨c + 1, r, by omega, by omega, by omega, by go_num, rfl, HUP.out hcf, HS.out.drewN nq⟩
        case measure => simp [intOf]; omega
    · obtain rfl : s = r := by omega
      have HX : Hid (∀ u, u ∈ X.take (s - a) ++ Y.take (mid - s) → ∀ v, v ∈ X.drop (s - a) ++ Y.drop (mid - s) → Tlt (ltc cf) u v) :=
        Sc.cross o HPRE.out.sx HPRE.out.sy HF.out.2.1 HF.out.2.2.1 HMID.out (.inl ⟨rfl, rfl, by omega⟩) HSC.out
      obtain ⟨e, hed⟩ : ∃ e, e = mid + m - s := ⟨_, rfl⟩
      have s1 : a ≤ s := by have := HLH.out; have := HMID.out; omega
      have s2 : s ≤ m := by have := HLH.out; omega
      have s3 : s ≤ mid := by have := HLH.out; omega
      have e1 : m ≤ e := by omega
      have e2 : e ≤ b := by have := HLH.out; have := HMID.out; omega
      have e3 : mid ≤ e := by omega
      have her : (mid : Int) + (m : Int) - (s : Int) = (e : Int) := by omega
      have HFX : Hid (P.length = a ∧ a + X.length = m ∧ m + Y.length = b ∧ (P ++ X ++ Y ++ S).length = N ∧ X.length + Y.length ≤ k + 1 ∧ a ≤ s ∧ s ≤ m ∧ s ≤ mid ∧ e = mid + m - s ∧ m ≤ e ∧ e ≤ b ∧ a < mid ∧ mid < b) := ⟨HF.out.1, HF.out.2.1, HF.out.2.2.1, HF.out.2.2.2.1, HF.out.2.2.2.2, s1, s2, s3, hed, e1, e2, amid, midb⟩
      clear HSC HF HMID HLH hed hls hrh hsr
      by_cases kA : s < m
      · have kB : s < mid := by omega
        by_cases kC : a < s
        · by_cases kD : e < b
          · skip
            have f1 : (s : Int) < (m : Int) := by omega
            have f2 : (m : Int) < (e : Int) := by omega
            have f3 : (a : Int) < (s : Int) := by omega
            have f4 : (s : Int) < (mid : Int) := by omega
            have f5 : (mid : Int) < (e : Int) := by omega
            have f6 : (e : Int) < (b : Int) := by omega
            have c := rotate_any Gb ln w0 wr blk cap (P ++ X.take (s - a)) (X.drop (s - a)) (Y.take (mid - s)) (Y.drop (mid - s) ++ S) (.func (.func 24) #[] #[]) N (by have h1 := HFX.out; simp at h1 ⊢; omega) hd (by have := HFX.out; simp; omega) (by have := HFX.out; simp; omega) (by have := HS.out; rw [rot_eq]; exact this) s m e (by have := HFX.out; simp; omega) (by have := HFX.out; simp; omega) (by have := HFX.out; simp; omega)
            go_wp2_with fail
            refine c.mono ?_
            rintro e w3 ⟨rfl, hs3⟩
            have hs3' : Srt Gb ln w0 blk (P ++ (X.take (s - a) ++ Y.take (mid - s)) ++ (X.drop (s - a) ++ Y.drop (mid - s)) ++ S) w3 := by simpa using hs3
            have HS2 := hide hs3'
            clear hs3 hs3' c
            have c := HIH.out P (X.take (s - a)) (Y.take (mid - s)) (X.drop (s - a) ++ Y.drop (mid - s) ++ S) w3 a s mid (by have := HFX.out; simp; omega) (by have h1 := HFX.out; simp at h1 ⊢; omega) HFX.out.1 (by have := HFX.out; simp; omega) (by have := HFX.out; simp; omega) (HPRE.out.take (s - a) (mid - s) (by omega) (by omega)) (by have := HS2.out; simpa using this)
            go_wp2_with fail
            refine c.mono ?_
            rintro e w4 ⟨rfl, Z1, hz1, hz2, hs4⟩
            have HZ1 : Hid (Z1.Perm (X.take (s - a) ++ Y.take (mid - s)) ∧ Sd (ltc cf) Z1) := ⟨hz1, hz2⟩
            have hs4' : Srt Gb ln w0 blk (P ++ Z1 ++ (X.drop (s - a) ++ Y.drop (mid - s)) ++ S) w4 := by simpa using hs4
            have HS3 := hide hs4'
            clear hz1 hz2 hs4 hs4' c
            have c := HIH.out (P ++ Z1) (X.drop (s - a)) (Y.drop (mid - s)) S w4 mid e b (by have := HFX.out; simp; omega) (by have h1 := HFX.out; have h2 := HZ1.out.1.length_eq; simp at h1 h2 ⊢; omega) (by have h1 := HFX.out; have h2 := HZ1.out.1.length_eq; simp at h1 h2 ⊢; omega) (by have := HFX.out; simp; omega) (by have := HFX.out; simp; omega) (HPRE.out.drop (s - a) (mid - s) (by have := HFX.out; omega) (by have := HFX.out; omega)) (by have := HS3.out; simpa using this)
            go_wp2_with fail
            refine c.mono ?_
            rintro e w5 ⟨rfl, Z2, hz2, hz3, hs5⟩
            have HZ2 : Hid (Z2.Perm (X.drop (s - a) ++ Y.drop (mid - s)) ∧ Sd (ltc cf) Z2) := ⟨hz2, hz3⟩
            have HS4 := hide hs5
            clear hz2 hz3 hs5 c
            have HP : Hid (∃ Z : List Nat, Z.Perm (X ++ Y) ∧ Sd (ltc cf) Z ∧ Srt Gb ln w0 blk (P ++ Z ++ S) w5) := sym_fin HX.out HZ1.out HZ2.out HS4.out
            go_wp2
            go_end0
            exact ⟨rfl, HP.out⟩
          · skip
            have f7 : (s : Int) < (m : Int) := by omega
            have f8 : (m : Int) < (e : Int) := by omega
            have f9 : (a : Int) < (s : Int) := by omega
            have f10 : (s : Int) < (mid : Int) := by omega
            have f11 : (mid : Int) < (e : Int) := by omega
            have f12 : decide ((e : Int) < (b : Int)) = false := decide_eq_false (by omega)
            have g12 : decide (e < b) = false := decide_eq_false (by omega)
            have c := rotate_any Gb ln w0 wr blk cap (P ++ X.take (s - a)) (X.drop (s - a)) (Y.take (mid - s)) (Y.drop (mid - s) ++ S) (.func (.func 24) #[] #[]) N (by have h1 := HFX.out; simp at h1 ⊢; omega) hd (by have := HFX.out; simp; omega) (by have := HFX.out; simp; omega) (by have := HS.out; rw [rot_eq]; exact this) s m e (by have := HFX.out; simp; omega) (by have := HFX.out; simp; omega) (by have := HFX.out; simp; omega)
            go_wp2_with fail
            refine c.mono ?_
            rintro e w3 ⟨rfl, hs3⟩
            have hs3' : Srt Gb ln w0 blk (P ++ (X.take (s - a) ++ Y.take (mid - s)) ++ (X.drop (s - a) ++ Y.drop (mid - s)) ++ S) w3 := by simpa using hs3
            have HS2 := hide hs3'
            clear hs3 hs3' c
            have c := HIH.out P (X.take (s - a)) (Y.take (mid - s)) (X.drop (s - a) ++ Y.drop (mid - s) ++ S) w3 a s mid (by have := HFX.out; simp; omega) (by have h1 := HFX.out; simp at h1 ⊢; omega) HFX.out.1 (by have := HFX.out; simp; omega) (by have := HFX.out; simp; omega) (HPRE.out.take (s - a) (mid - s) (by omega) (by omega)) (by have := HS2.out; simpa using this)
            go_wp2_with fail
            refine c.mono ?_
            rintro e w4 ⟨rfl, Z1, hz1, hz2, hs4⟩
            have HZ1 : Hid (Z1.Perm (X.take (s - a) ++ Y.take (mid - s)) ∧ Sd (ltc cf) Z1) := ⟨hz1, hz2⟩
            have hs4' : Srt Gb ln w0 blk (P ++ Z1 ++ (X.drop (s - a) ++ Y.drop (mid - s)) ++ S) w4 := by simpa using hs4
            have HS3 := hide hs4'
            clear hz1 hz2 hs4 hs4' c
            obtain ⟨Z2, hZ2⟩ : ∃ Z2, Z2 = X.drop (s - a) ++ Y.drop (mid - s) := ⟨_, rfl⟩
            have HZ2 : Hid (Z2.Perm (X.drop (s - a) ++ Y.drop (mid - s)) ∧ Sd (ltc cf) Z2) := by rw [hZ2]; exact half_right HPRE.out (s - a) (mid - s) (by have := HFX.out; omega)
            have HS4 : Hid (Srt Gb ln w0 blk (P ++ Z1 ++ Z2 ++ S) w4) := by rw [hZ2]; exact HS3.out
            clear hZ2
            have HP : Hid (∃ Z : List Nat, Z.Perm (X ++ Y) ∧ Sd (ltc cf) Z ∧ Srt Gb ln w0 blk (P ++ Z ++ S) w4) := sym_fin HX.out HZ1.out HZ2.out HS4.out
            go_wp2
            go_end0
            exact ⟨rfl, HP.out⟩
        · by_cases kD : e < b
          · skip
            have f13 : (s : Int) < (m : Int) := by omega
            have f14 : (m : Int) < (e : Int) := by omega
            have f15 : decide ((a : Int) < (s : Int)) = false := decide_eq_false (by omega)
            have g15 : decide (a < s) = false := decide_eq_false (by omega)
            have f16 : (s : Int) < (mid : Int) := by omega
            have f17 : (mid : Int) < (e : Int) := by omega
            have f18 : (e : Int) < (b : Int) := by omega
            have c := rotate_any Gb ln w0 wr blk cap (P ++ X.take (s - a)) (X.drop (s - a)) (Y.take (mid - s)) (Y.drop (mid - s) ++ S) (.func (.func 24) #[] #[]) N (by have h1 := HFX.out; simp at h1 ⊢; omega) hd (by have := HFX.out; simp; omega) (by have := HFX.out; simp; omega) (by have := HS.out; rw [rot_eq]; exact this) s m e (by have := HFX.out; simp; omega) (by have := HFX.out; simp; omega) (by have := HFX.out; simp; omega)
            go_wp2_with fail
            refine c.mono ?_
            rintro e w3 ⟨rfl, hs3⟩
            have hs3' : Srt Gb ln w0 blk (P ++ (X.take (s - a) ++ Y.take (mid - s)) ++ (X.drop (s - a) ++ Y.drop (mid - s)) ++ S) w3 := by simpa using hs3
            have HS2 := hide hs3'
            clear hs3 hs3' c
            obtain ⟨Z1, hZ1⟩ : ∃ Z1, Z1 = X.take (s - a) ++ Y.take (mid - s) := ⟨_, rfl⟩
            have HZ1 : Hid (Z1.Perm (X.take (s - a) ++ Y.take (mid - s)) ∧ Sd (ltc cf) Z1) := by rw [hZ1]; exact half_left HPRE.out (s - a) (mid - s) (by omega)
            have HS3 : Hid (Srt Gb ln w0 blk (P ++ Z1 ++ (X.drop (s - a) ++ Y.drop (mid - s)) ++ S) w3) := by rw [hZ1]; exact HS2.out
            clear hZ1
            have c := HIH.out (P ++ Z1) (X.drop (s - a)) (Y.drop (mid - s)) S w3 mid e b (by have := HFX.out; simp; omega) (by have h1 := HFX.out; have h2 := HZ1.out.1.length_eq; simp at h1 h2 ⊢; omega) (by have h1 := HFX.out; have h2 := HZ1.out.1.length_eq; simp at h1 h2 ⊢; omega) (by have := HFX.out; simp; omega) (by have := HFX.out; simp; omega) (HPRE.out.drop (s - a) (mid - s) (by have := HFX.out; omega) (by have := HFX.out; omega)) (by have := HS3.out; simpa using this)
            go_wp2_with fail
            refine c.mono ?_
            rintro e w5 ⟨rfl, Z2, hz2, hz3, hs5⟩
            have HZ2 : Hid (Z2.Perm (X.drop (s - a) ++ Y.drop (mid - s)) ∧ Sd (ltc cf) Z2) := ⟨hz2, hz3⟩
            have HS4 := hide hs5
            clear hz2 hz3 hs5 c
            have HP : Hid (∃ Z : List Nat, Z.Perm (X ++ Y) ∧ Sd (ltc cf) Z ∧ Srt Gb ln w0 blk (P ++ Z ++ S) w5) := sym_fin HX.out HZ1.out HZ2.out HS4.out
            go_wp2
            go_end0
            exact ⟨rfl, HP.out⟩
          · skip
            have f19 : (s : Int) < (m : Int) := by omega
            have f20 : (m : Int) < (e : Int) := by omega
            have f21 : decide ((a : Int) < (s : Int)) = false := decide_eq_false (by omega)
            have g21 : decide (a < s) = false := decide_eq_false (by omega)
            have f22 : (s : Int) < (mid : Int) := by omega
            have f23 : (mid : Int) < (e : Int) := by omega
            have f24 : decide ((e : Int) < (b : Int)) = false := decide_eq_false (by omega)
            have g24 : decide (e < b) = false := decide_eq_false (by omega)
            have c := rotate_any Gb ln w0 wr blk cap (P ++ X.take (s - a)) (X.drop (s - a)) (Y.take (mid - s)) (Y.drop (mid - s) ++ S) (.func (.func 24) #[] #[]) N (by have h1 := HFX.out; simp at h1 ⊢; omega) hd (by have := HFX.out; simp; omega) (by have := HFX.out; simp; omega) (by have := HS.out; rw [rot_eq]; exact this) s m e (by have := HFX.out; simp; omega) (by have := HFX.out; simp; omega) (by have := HFX.out; simp; omega)
            go_wp2_with fail
            refine c.mono ?_
            rintro e w3 ⟨rfl, hs3⟩
            have hs3' : Srt Gb ln w0 blk (P ++ (X.take (s - a) ++ Y.take (mid - s)) ++ (X.drop (s - a) ++ Y.drop (mid - s)) ++ S) w3 := by simpa using hs3
            have HS2 := hide hs3'
            clear hs3 hs3' c
            obtain ⟨Z1, hZ1⟩ : ∃ Z1, Z1 = X.take (s - a) ++ Y.take (mid - s) := ⟨_, rfl⟩
            have HZ1 : Hid (Z1.Perm (X.take (s - a) ++ Y.take (mid - s)) ∧ Sd (ltc cf) Z1) := by rw [hZ1]; exact half_left HPRE.out (s - a) (mid - s) (by omega)
            have HS3 : Hid (Srt Gb ln w0 blk (P ++ Z1 ++ (X.drop (s - a) ++ Y.drop (mid - s)) ++ S) w3) := by rw [hZ1]; exact HS2.out
            clear hZ1
            obtain ⟨Z2, hZ2⟩ : ∃ Z2, Z2 = X.drop (s - a) ++ Y.drop (mid - s) := ⟨_, rfl⟩
            have HZ2 : Hid (Z2.Perm (X.drop (s - a) ++ Y.drop (mid - s)) ∧ Sd (ltc cf) Z2) := by rw [hZ2]; exact half_right HPRE.out (s - a) (mid - s) (by have := HFX.out; omega)
            have HS4 : Hid (Srt Gb ln w0 blk (P ++ Z1 ++ Z2 ++ S) w3) := by rw [hZ2]; exact HS3.out
            clear hZ2
            have HP : Hid (∃ Z : List Nat, Z.Perm (X ++ Y) ∧ Sd (ltc cf) Z ∧ Srt Gb ln w0 blk (P ++ Z ++ S) w3) := sym_fin HX.out HZ1.out HZ2.out HS4.out
            go_wp2
            go_end0
            exact ⟨rfl, HP.out⟩

      · by_cases kB : s < mid
        · skip
          have f25 : decide ((s : Int) < (m : Int)) = false := decide_eq_false (by omega)
          have g25 : decide (s < m) = false := decide_eq_false (by omega)
          have f26 : (m : Int) < (e : Int) := by omega
          have f27 : (a : Int) < (s : Int) := by omega
          have f28 : (s : Int) < (mid : Int) := by omega
          have f29 : decide ((mid : Int) < (e : Int)) = false := decide_eq_false (by omega)
          have g29 : decide (mid < e) = false := decide_eq_false (by omega)
          have f30 : (e : Int) < (b : Int) := by omega
          have hs3' : Srt Gb ln w0 blk (P ++ (X.take (s - a) ++ Y.take (mid - s)) ++ (X.drop (s - a) ++ Y.drop (mid - s)) ++ S) wr := by rw [norot_eq (by have := HFX.out; omega)]; exact HS.out
          have HS2 := hide hs3'
          clear hs3'
          have c := HIH.out P (X.take (s - a)) (Y.take (mid - s)) (X.drop (s - a) ++ Y.drop (mid - s) ++ S) wr a s mid (by have := HFX.out; simp; omega) (by have h1 := HFX.out; simp at h1 ⊢; omega) HFX.out.1 (by have := HFX.out; simp; omega) (by have := HFX.out; simp; omega) (HPRE.out.take (s - a) (mid - s) (by omega) (by omega)) (by have := HS2.out; simpa using this)
          go_wp2_with fail
          refine c.mono ?_
          rintro e w4 ⟨rfl, Z1, hz1, hz2, hs4⟩
          have HZ1 : Hid (Z1.Perm (X.take (s - a) ++ Y.take (mid - s)) ∧ Sd (ltc cf) Z1) := ⟨hz1, hz2⟩
          have hs4' : Srt Gb ln w0 blk (P ++ Z1 ++ (X.drop (s - a) ++ Y.drop (mid - s)) ++ S) w4 := by simpa using hs4
          have HS3 := hide hs4'
          clear hz1 hz2 hs4 hs4' c
          obtain ⟨Z2, hZ2⟩ : ∃ Z2, Z2 = X.drop (s - a) ++ Y.drop (mid - s) := ⟨_, rfl⟩
          have HZ2 : Hid (Z2.Perm (X.drop (s - a) ++ Y.drop (mid - s)) ∧ Sd (ltc cf) Z2) := by rw [hZ2]; exact half_right HPRE.out (s - a) (mid - s) (by have := HFX.out; omega)
          have HS4 : Hid (Srt Gb ln w0 blk (P ++ Z1 ++ Z2 ++ S) w4) := by rw [hZ2]; exact HS3.out
          clear hZ2
          have HP : Hid (∃ Z : List Nat, Z.Perm (X ++ Y) ∧ Sd (ltc cf) Z ∧ Srt Gb ln w0 blk (P ++ Z ++ S) w4) := sym_fin HX.out HZ1.out HZ2.out HS4.out
          go_wp2
          go_end0
          exact ⟨rfl, HP.out⟩
        · skip
          have f31 : decide ((s : Int) < (m : Int)) = false := decide_eq_false (by omega)
          have g31 : decide (s < m) = false := decide_eq_false (by omega)
          have f32 : decide ((m : Int) < (e : Int)) = false := decide_eq_false (by omega)
          have g32 : decide (m < e) = false := decide_eq_false (by omega)
          have f33 : (a : Int) < (s : Int) := by omega
          have f34 : decide ((s : Int) < (mid : Int)) = false := decide_eq_false (by omega)
          have g34 : decide (s < mid) = false := decide_eq_false (by omega)
          have f35 : decide ((mid : Int) < (e : Int)) = false := decide_eq_false (by omega)
          have g35 : decide (mid < e) = false := decide_eq_false (by omega)
          have f36 : (e : Int) < (b : Int) := by omega
          have hs3' : Srt Gb ln w0 blk (P ++ (X.take (s - a) ++ Y.take (mid - s)) ++ (X.drop (s - a) ++ Y.drop (mid - s)) ++ S) wr := by rw [norot_eq (by have := HFX.out; omega)]; exact HS.out
          have HS2 := hide hs3'
          clear hs3'
          obtain ⟨Z1, hZ1⟩ : ∃ Z1, Z1 = X.take (s - a) ++ Y.take (mid - s) := ⟨_, rfl⟩
          have HZ1 : Hid (Z1.Perm (X.take (s - a) ++ Y.take (mid - s)) ∧ Sd (ltc cf) Z1) := by rw [hZ1]; exact half_left HPRE.out (s - a) (mid - s) (by omega)
          have HS3 : Hid (Srt Gb ln w0 blk (P ++ Z1 ++ (X.drop (s - a) ++ Y.drop (mid - s)) ++ S) wr) := by rw [hZ1]; exact HS2.out
          clear hZ1
          obtain ⟨Z2, hZ2⟩ : ∃ Z2, Z2 = X.drop (s - a) ++ Y.drop (mid - s) := ⟨_, rfl⟩
          have HZ2 : Hid (Z2.Perm (X.drop (s - a) ++ Y.drop (mid - s)) ∧ Sd (ltc cf) Z2) := by rw [hZ2]; exact half_right HPRE.out (s - a) (mid - s) (by have := HFX.out; omega)
          have HS4 : Hid (Srt Gb ln w0 blk (P ++ Z1 ++ Z2 ++ S) wr) := by rw [hZ2]; exact HS3.out
          clear hZ2
          have HP : Hid (∃ Z : List Nat, Z.Perm (X ++ Y) ∧ Sd (ltc cf) Z ∧ Srt Gb ln w0 blk (P ++ Z ++ S) wr) := sym_fin HX.out HZ1.out HZ2.out HS4.out
          go_wp2
          go_end0
          exact ⟨rfl, HP.out⟩

end Go.Proofs.Qxb6618735a

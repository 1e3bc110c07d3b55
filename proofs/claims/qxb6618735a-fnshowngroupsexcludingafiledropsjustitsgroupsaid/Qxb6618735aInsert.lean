/- seat b6618735a: slices.insertionSortCmpFunc over a run of rising starts -/
import Derived.Test.Qxb6618735aSrt
import Derived.Test.Qxb6618735aOrd
import Derived.BigQuiet
import Derived.Deep.QuietTactic
namespace Go.Proofs.Qxb6618735a
open Go.RowKit

/-- the comparison, called in whatever world the sort passes through: it hands back cf x y, and only draws -/
def CmpOk (Gb ln : Nat → Nat) (w0 : World) (blk : Nat) (V : Nat → Prop) (cf : Nat → Nat → Int) : Prop :=
  ∀ w d, Srt Gb ln w0 blk d w → ∀ x y, V x → V y → Calls Try.prog 24 #[encG Gb ln x, encG Gb ln y] w fun e w' => e = .returned (.int .i64 (cf x y)) ∧ ∃ q, w' = w.drewN q

def ltc (cf : Nat → Nat → Int) (x y : Nat) : Bool := decide (cf x y < 0)

theorem CmpOk.quiet {Gb ln : Nat → Nat} {w0 : World} {blk : Nat} {V : Nat → Prop} {cf : Nat → Nat → Int} (h : CmpOk Gb ln w0 blk V cf) {w : World} {d : List Nat} (hs : Srt Gb ln w0 blk d w) {x y : Nat} (hx : V x) (hy : V y) (n : Nat) :
    Calls Try.prog 24 #[encG Gb ln x, encG Gb ln y] (w.drewN n) fun e w'' => e = .returned (.int .i64 (cf x y)) ∧ ∃ m, w'' = w.drewN m :=
  (h (w.drewN n) d (hs.drewN n) x y hx hy).mono fun _ _ ⟨he, q, hq⟩ => ⟨he, n + q, by rw [hq]; unfold World.drewN; simp [Nat.add_assoc]⟩

theorem swp_adj (A B : List Nat) (z x : Nat) (j : Nat) (hj : A.length + 1 = j) : swp (A ++ [z] ++ [x] ++ B) j (j - 1) = A ++ [x] ++ [z] ++ B := by
  subst hj
  apply ext_getD
  · rw [swp_length]; simp
  · intro i hi
    rw [swp_get _ _ _ _ (by simp) (by simp)]
    simp only [getD_append, List.length_append, List.length_singleton]
    by_cases e1 : i = A.length
    · subst e1; simp; intro h; omega
    · by_cases e2 : i = A.length + 1
      · subst e2; simp; intro h; omega
      · rw [if_neg (by omega), if_neg (by omega)]
        repeat' split
        all_goals first | omega | rfl

/-- the outer loop's state: Z holds the first k of X, sorted; the rest of X stands behind -/
structure InsO (Gb ln : Nat → Nat) (w0 : World) (blk : Nat) (cf : Nat → Nat → Int) (P X S : List Nat) (k : Nat) (w : World) : Prop where
  ex : ∃ Z : List Nat, Z.Perm (X.take k) ∧ Sd (ltc cf) Z ∧ Srt Gb ln w0 blk (P ++ Z ++ X.drop k ++ S) w

/-- the inner loop's state: x stands behind Z1, and belongs ahead of Z2 -/
structure InsI (Gb ln : Nat → Nat) (w0 : World) (blk : Nat) (cf : Nat → Nat → Int) (P Z R : List Nat) (x j : Nat) (w : World) : Prop where
  ex : ∃ Z1 Z2 : List Nat, Z1 ++ Z2 = Z ∧ P.length + Z1.length = j ∧ (∀ z, z ∈ Z2 → Tlt (ltc cf) x z) ∧ Srt Gb ln w0 blk (P ++ Z1 ++ [x] ++ Z2 ++ R) w

theorem InsO.drewN {Gb ln : Nat → Nat} {w0 : World} {blk : Nat} {cf : Nat → Nat → Int} {P X S : List Nat} {k : Nat} {w : World} (h : InsO Gb ln w0 blk cf P X S k w) (n : Nat) : InsO Gb ln w0 blk cf P X S k (w.drewN n) := by
  obtain ⟨Z, h1, h2, h3⟩ := h.ex
  exact ⟨Z, h1, h2, h3.drewN n⟩

theorem InsO.enter {Gb ln : Nat → Nat} {w0 : World} {blk : Nat} {cf : Nat → Nat → Int} {P X S : List Nat} {k : Nat} {w : World} (h : InsO Gb ln w0 blk cf P X S k w) (hk : k < X.length) (hup : X.Pairwise (· < ·)) :
    ∃ Z x, x = X.getD k 0 ∧ Z.Perm (X.take k) ∧ Z.length = k ∧ Sd (ltc cf) Z ∧ (∀ z, z ∈ Z → z < x) ∧ x ∈ X ∧ (∀ z, z ∈ Z → z ∈ X) ∧ InsI Gb ln w0 blk cf P Z (X.drop (k + 1) ++ S) x (P.length + k) w := by
  obtain ⟨Z, h1, h2, h3⟩ := h.ex
  have hl : Z.length = k := by have := h1.length_eq; simp at this; omega
  have hd : X.drop k = X.getD k 0 :: X.drop (k + 1) := by
    rw [List.drop_eq_getElem_cons hk]; simp [hk]
  refine ⟨Z, X.getD k 0, rfl, h1, hl, h2, fun z hz => ?_, by simp [hk], fun z hz => List.mem_of_mem_take (h1.subset hz), Z, [], by simp, by omega, fun z hz => by simp at hz, ?_⟩
  · have hz' : z ∈ X.take k := h1.subset hz
    obtain ⟨i, hi, rfl⟩ := List.getElem_of_mem hz'
    simp at hi
    have := List.pairwise_iff_getElem.1 hup i k (by omega) hk (by omega)
    simpa [hk] using this
  · rw [hd] at h3
    simpa using h3

theorem InsI.step {Gb ln : Nat → Nat} {w0 : World} {blk : Nat} {cf : Nat → Nat → Int} {P Z R : List Nat} {x j : Nat} {w : World} (h : InsI Gb ln w0 blk cf P Z R x j w) (hj : P.length < j) :
    ∃ z d, z ∈ Z ∧ d.length = P.length + Z.length + 1 + R.length ∧ j < d.length ∧ d.getD j 0 = x ∧ d.getD (j - 1) 0 = z ∧ Srt Gb ln w0 blk d w ∧
      (Tlt (ltc cf) x z → ∀ w', Srt Gb ln w0 blk (swp d j (j - 1)) w' → InsI Gb ln w0 blk cf P Z R x (j - 1) w') ∧
      (Sd (ltc cf) Z → Tlt (ltc cf) z x → (o : Swo (ltc cf)) → ∃ Z1 Z2, Z1 ++ Z2 = Z ∧ (∀ y, y ∈ Z1 → Tlt (ltc cf) y x) ∧ (∀ y, y ∈ Z2 → Tlt (ltc cf) x y) ∧ d = P ++ (Z1 ++ [x] ++ Z2) ++ R) := by
  obtain ⟨Z1, Z2, h1, h2, h3, h4⟩ := h.ex
  have hne : Z1 ≠ [] := fun e => by subst e; simp at h2; omega
  obtain ⟨A, z, rfl⟩ : ∃ A z, Z1 = A ++ [z] := ⟨Z1.dropLast, Z1.getLast hne, (List.dropLast_concat_getLast hne).symm⟩
  simp at h2
  refine ⟨z, P ++ (A ++ [z]) ++ [x] ++ Z2 ++ R, by rw [← h1]; simp, by rw [← h1]; simp; omega, by simp; omega, ?_, ?_, h4, fun ht w' hs => ?_, fun hsd ht o => ?_⟩
  · simp only [getD_append, List.length_append, List.length_singleton]
    rw [if_pos (by omega), if_pos (by omega), if_neg (by omega), show j - (P.length + (A.length + 1)) = 0 by omega]; rfl
  · simp only [getD_append, List.length_append, List.length_singleton]
    rw [if_pos (by omega), if_pos (by omega), if_pos (by omega), if_neg (by omega), if_neg (by omega), show j - 1 - P.length - A.length = 0 by omega]; rfl
  · refine ⟨A, [z] ++ Z2, by rw [← h1]; simp, by omega, fun y hy => ?_, ?_⟩
    · simp at hy
      rcases hy with rfl | hy
      · exact ht
      · exact h3 y hy
    · have e := swp_adj (P ++ A) (Z2 ++ R) z x j (by simp; omega)
      rw [show P ++ (A ++ [z]) ++ [x] ++ Z2 ++ R = P ++ A ++ [z] ++ [x] ++ (Z2 ++ R) by simp, e] at hs
      simpa using hs
  · refine ⟨A ++ [z], Z2, h1, fun y hy => ?_, h3, by simp⟩
    simp at hy
    rcases hy with hy | rfl
    · rw [← h1] at hsd
      exact ((hsd.left).cross y hy z (by simp)).trans o ht
    · exact ht

theorem InsO.next {Gb ln : Nat → Nat} {w0 : World} {blk : Nat} {cf : Nat → Nat → Int} {P X S Z Z1 Z2 : List Nat} {k : Nat} {w : World} (hk : k < X.length) (hp : Z.Perm (X.take k)) (hsd : Sd (ltc cf) Z) (hz : Z1 ++ Z2 = Z)
    (h1 : ∀ y, y ∈ Z1 → Tlt (ltc cf) y (X.getD k 0)) (h2 : ∀ y, y ∈ Z2 → Tlt (ltc cf) (X.getD k 0) y) (h : Srt Gb ln w0 blk (P ++ (Z1 ++ [X.getD k 0] ++ Z2) ++ (X.drop (k + 1) ++ S)) w) : InsO Gb ln w0 blk cf P X S (k + 1) w := by
  subst hz
  refine ⟨Z1 ++ [X.getD k 0] ++ Z2, ?_, hsd.insert h1 h2, by simpa using h⟩
  rw [List.take_succ_eq_append_getElem hk]
  have e : [X[k]] = [X.getD k 0] := by simp [hk]
  rw [e]
  refine List.Perm.trans ?_ (hp.append_right _)
  have : (Z1 ++ [X.getD k 0] ++ Z2).Perm (Z1 ++ (Z2 ++ [X.getD k 0])) := by
    rw [List.append_assoc]
    exact List.Perm.append_left Z1 (List.perm_append_comm)
  simpa using this

def insPost (Gb ln : Nat → Nat) (w0 : World) (blk : Nat) (cf : Nat → Nat → Int) (P X S : List Nat) (e : Ending) (w' : World) : Prop := e = .returned (.tuple #[]) ∧ ∃ Z : List Nat, Z.Perm X ∧ Sd (ltc cf) Z ∧ Srt Gb ln w0 blk (P ++ Z ++ S) w'

set_option maxHeartbeats 1600000 in
theorem insert_any (Gb ln : Nat → Nat) (w0 w : World) (blk cap : Nat) (V : Nat → Prop) (cf : Nat → Nat → Int) (o : Swo (ltc cf)) (P X S : List Nat) (N a b : Nat) (hN : (P ++ X ++ S).length = N) (hd : N ≤ 4096) (ha : P.length = a) (hb : P.length + X.length = b)
    (hup : X.Pairwise (· < ·)) (hV : ∀ x, x ∈ X → V x) (hc : CmpOk Gb ln w0 blk V cf) (h : Srt Gb ln w0 blk (P ++ X ++ S) w) :
    Calls Try.prog 31 #[.slice (some ⟨blk, 0, none⟩) N cap, .int .i64 a, .int .i64 b, .func (.func 24) #[] #[]] w fun e w' => insPost Gb ln w0 blk cf P X S e w' := by
  by_cases hX : X = []
  · subst hX
    have HP : Hid (∃ Z : List Nat, Z.Perm [] ∧ Sd (ltc cf) Z ∧ Srt Gb ln w0 blk (P ++ Z ++ S) w) := ⟨[], List.Perm.refl _, List.Pairwise.nil, h⟩
    have hab : b = a := by simp at hb; omega
    have haN : a ≤ N := by simp at hN; omega
    subst hab
    clear h hN ha hb hup hV hc
    go_enter Try.func31, Try.ntmps31
    go_wp2
    refine wp_loop_rounds 1 ?_
    rw [rounds_succ]
    go_wp2
    go_end0
    exact ⟨rfl, HP.out⟩
  · have hXl : 0 < X.length := List.length_pos_iff.2 hX
    have H0 : Hid (InsO Gb ln w0 blk cf P X S 1 w) := by
      obtain ⟨x, X', rfl⟩ := List.exists_cons_of_ne_nil hX
      exact ⟨[x], List.Perm.refl _, List.pairwise_singleton _ _, by simpa using h⟩
    have HUP : Hid (X.Pairwise (· < ·)) := hup
    have HV : Hid (∀ x, x ∈ X → V x) := hV
    have HC : Hid (CmpOk Gb ln w0 blk V cf) := hc
    have HA : Hid (P.length = a) := ha
    have HXL : Hid (P.length + X.length = b) := hb
    have HN : Hid ((P ++ X ++ S).length = N) := hN
    have hab : a < b := by omega
    have hbN : b ≤ N := by simp at hN; omega
    clear h hup hV hc hX ha hb hN hXl
    go_enter Try.func31, Try.ntmps31
    go_wp2
    go_loopw [8] (fun i wr => ∃ k : Nat, a + k ≤ b ∧ 0 < k ∧ i = .int .i64 ((a + k : Nat) : Int) ∧ Hid (InsO Gb ln w0 blk cf P X S k wr)) (fun i _ => b - (intOf i).toNat)
    case atStart => exact ⟨1, by omega, by omega, by go_num, H0.out⟩
    case round =>
      obtain ⟨k, hk, hk0, rfl, HO⟩ := hrel
      by_cases hlt : a + k < b
      · obtain ⟨Z, x, hx, hp, hzl, hsd, hlx, hxX, hzX, hI⟩ := HO.out.enter (by have := HA.out; have := HXL.out; omega) HUP.out
        have HI0 : Hid (InsI Gb ln w0 blk cf P Z (X.drop (k + 1) ++ S) x (a + k) wr) := by have := HA.out; rw [← this]; exact hI
        have HZ : Hid (x = X.getD k 0 ∧ Z.Perm (X.take k) ∧ Sd (ltc cf) Z ∧ (∀ z, z ∈ Z → z < x) ∧ x ∈ X ∧ (∀ z, z ∈ Z → z ∈ X)) := ⟨hx, hp, hsd, hlx, hxX, hzX⟩
        have HLN : Hid (P.length + Z.length + 1 + (X.drop (k + 1) ++ S).length = N) := by
          have h1 := HN.out; have h2 := HA.out; have h3 := HXL.out; show _ = _; simp at h1 ⊢; omega
        clear hx hp hsd hlx hxX hzX hI hzl
        go_wp2
        go_loopw [9] (fun y wr => ∃ j : Nat, a ≤ j ∧ j ≤ a + k ∧ y = .int .i64 (j : Int) ∧ Hid (InsI Gb ln w0 blk cf P Z (X.drop (k + 1) ++ S) x j wr)) (fun y _ => (intOf y).toNat)
        case atStart => exact ⟨a + k, by omega, by omega, by go_num, HI0.out⟩
        case round =>
          obtain ⟨j, hj1, hj2, rfl, HJ⟩ := hrel
          by_cases hja : a < j
          · obtain ⟨z, d, hzZ, hdl, hjd, gx, gz, HS, hn, hs⟩ := HJ.out.step (by have := HA.out; omega)
            obtain ⟨zx, zp, zsd, zlx, zxX, zzX⟩ := HZ.out
            have hdN : d.length = N := hdl.trans HLN.out
            have cj := HS.cell j hjd
            have cj1 := HS.cell (j - 1) (by omega)
            have fj := HS.free j
            have fj1 := HS.free (j - 1)
            rw [gx] at cj
            rw [gz] at cj1
            have S1 := (HS.set j z (by omega)).set (j - 1) x (by simp; omega)
            have HS1 : Hid (Srt Gb ln w0 blk (swp d j (j - 1)) ((wr.setCell ⟨blk, j, none⟩ (encG Gb ln z)).setCell ⟨blk, j - 1, none⟩ (encG Gb ln x))) := by unfold swp; rw [gx, gz]; exact S1
            have HQ : Hid (∀ n, Calls Try.prog 24 #[encG Gb ln x, encG Gb ln z] (wr.drewN n) fun e w'' => e = .returned (.int .i64 (cf x z)) ∧ ∃ m, w'' = wr.drewN m) := fun n => HC.out.quiet HS (HV.out x zxX) (HV.out z (zzX z hzZ)) n
            have HLX : Hid (z < x) := zlx z hzZ
            have HNX : Hid (Tlt (ltc cf) x z → ∀ w', Srt Gb ln w0 blk (swp d j (j - 1)) w' → InsI Gb ln w0 blk cf P Z (X.drop (k + 1) ++ S) x (j - 1) w') := hn
            have HST : Hid (Tlt (ltc cf) z x → InsO Gb ln w0 blk cf P X S (k + 1) wr) := fun ht => by
              obtain ⟨Z1, Z2, e1, e2, e3, e4⟩ := hs zsd ht o
              subst zx
              exact InsO.next (by have := HA.out; have := HXL.out; omega) zp zsd e1 e2 e3 (by rw [← e4]; exact HS)
            have i1 : (a : Int) < (j : Int) := by omega
            have i2 : (j : Int) - 1 < (N : Int) := by omega
            have i3 : (j : Int) < (N : Int) := by omega
            have hje : ((j - 1 : Nat) : Int) = (j : Int) - 1 := by omega
            clear S1 hn hs HS zx zp zsd zlx zxX zzX gx gz hdl hjd hdN hzZ
            by_cases hcf : cf x z < 0
            · have HT : Hid (Tlt (ltc cf) x z) := Tlt.of_lt (decide_eq_true hcf)
              go_wp2
              go_quiet ((go_at_call 24; exact HQ.out _))
              go_wp2
              go_region
              all_goals go_wp2
              go_roundw
              case rel => exact ⟨j - 1, by omega, by omega, by go_num, HNX.out HT.out _ (HS1.out.drewN nq).drew⟩
              case measure => simp [intOf]; omega
            · have HT : Hid (Tlt (ltc cf) z x) := Tlt.of_not (decide_eq_false hcf) HLX.out
              have i4 : decide (cf x z < 0) = false := decide_eq_false hcf
              have HO1 : Hid (InsO Gb ln w0 blk cf P X S (k + 1) wr) := HST.out HT.out
              go_wp2
              go_quiet ((go_at_call 24; exact HQ.out _))
              go_wp2
              go_roundw
              case rel => exact ⟨k + 1, by omega, by omega, by go_num, HO1.out.drewN nq⟩
              case measure => simp [intOf]; omega
          · obtain rfl : j = a := by omega
            have HO1 : Hid (InsO Gb ln w0 blk cf P X S (k + 1) wr) := by
              obtain ⟨zx, zp, zsd, zlx, zxX, zzX⟩ := HZ.out
              obtain ⟨Z1, Z2, e1, e2, e3, e4⟩ := HJ.out.ex
              have hz1 : Z1 = [] := List.eq_nil_of_length_eq_zero (by have := HA.out; omega)
              subst hz1 zx
              exact InsO.next (by have := HA.out; have := HXL.out; omega) zp zsd e1 (fun y hy => by simp at hy) e3 (by simpa using e4)
            have i1 : decide ((j : Int) < (j : Int)) = false := by simp
            go_wp2
            go_quiet (fail)
            go_wp2
            go_roundw
            case rel => exact ⟨k + 1, by omega, by omega, by go_num, HO1.out.drewN nq⟩
            case measure => simp [intOf]; omega
      · have HP : Hid (∃ Z : List Nat, Z.Perm X ∧ Sd (ltc cf) Z ∧ Srt Gb ln w0 blk (P ++ Z ++ S) wr) := by
          obtain ⟨Z, h1, h2, h3⟩ := HO.out.ex
          have hk' : X.length ≤ k := by have := HA.out; have := HXL.out; omega
          rw [List.take_of_length_le hk'] at h1
          rw [List.drop_eq_nil_of_le hk'] at h3
          exact ⟨Z, h1, h2, by simpa using h3⟩
        go_wp2
        go_end0
        exact ⟨rfl, HP.out⟩
end Go.Proofs.Qxb6618735a

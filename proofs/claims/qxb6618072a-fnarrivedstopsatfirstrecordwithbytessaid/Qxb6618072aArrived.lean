/- seat b6618072a: the contract of (*helloScan).arrived -/
import Derived.Test.Qxb6618072aArrLaw
import Derived.WalkKit
import Derived.WalkSpells
import Derived.BigRegion
import Derived.Deep.LoopGhost
namespace Go.Proofs.Qxb6618072a
open Go.RowKit

/-- what arrived hands back: with nothing left nil, else the bytes from place q on, m of them -/
def outIs (out : Value) (bf off q m : Nat) : Prop := ∃ a c, out = .slice a m c ∧ (0 < m → a = some ⟨bf, off + q, none⟩)

/-- where arrived stops -/
def stops (zs : List Int) (n q : Nat) (l vd v2 : Int) (out : Value) (bf off : Nat) : Prop :=
  (l = 0 ∧ out = .slice none 0 0 ∧ ((n < q + 5 ∧ v2 = vd) ∨ (q + 5 ≤ n ∧ zs.getD q 0 ≠ 22 ∧ v2 = 2))) ∨
  (l ≠ 0 ∧ q ≤ n ∧ v2 = vd ∧ outIs out bf off q (min l (n - q)).toNat)

/-- what arrived leaves, for a scan that stood at place q with l0 left: t headers read on, the answer, the scan's block; nothing else turned -/
def arrPost (b bf off n : Nat) (zs : List Int) (s : ByteArray) (q : Nat) (l0 p en fi ki ne va : Int) (ot : Bool) (vd : Int) (w : World) (e : Ending) (w' : World) : Prop :=
  ∃ t v2 out, e = .returned out ∧ chain zs n q t ∧ (0 < t → l0 = 0) ∧ stops zs n (q + 5 * t) (lft zs l0 q t) vd v2 out bf off ∧
      w'.heap[b]? = some (.cells (scanCells s ((q + 5 * t : Nat) : Int) (lft zs l0 q t) p en fi ki ne va ot v2) 47 (0, 0)) ∧ w.grownBy w' (some b)

theorem arrPost_mk {b bf off n : Nat} {zs : List Int} {s : ByteArray} {q : Nat} {l0 p en fi ki ne va : Int} {ot : Bool} {vd : Int} {w w' : World} {out : Value} (t qv : Nat) (lv v2 : Int)
    (hq : q + 5 * t = qv) (hl : lft zs l0 q t = lv) (h1 : chain zs n q t) (h2 : 0 < t → l0 = 0) (h3 : stops zs n qv lv vd v2 out bf off)
    (h4 : w'.heap[b]? = some (.cells (scanCells s (qv : Int) lv p en fi ki ne va ot v2) 47 (0, 0))) (h5 : w.grownBy w' (some b)) :
    arrPost b bf off n zs s q l0 p en fi ki ne va ot vd w (.returned out) w' := by
  subst hq hl; exact ⟨t, v2, out, rfl, h1, h2, h3, h4, h5⟩

theorem out_mk {a a' : Option Addr} {bf off qv n k c : Nat} {lv : Int} (ha : 0 < n → a = some ⟨bf, off, none⟩) (hk : k = (min lv ((n : Int) - (qv : Int))).toNat) (h : a' = a.map (fun x => x.add qv) ∨ k = 0) :
    outIs (.slice a' k c) bf off qv (min lv ((n : Int) - (qv : Int))).toNat := by
  subst hk
  refine ⟨a', c, rfl, fun hm => ?_⟩
  rcases h with h | h
  · rw [h, ha (by omega)]; simp [Addr.add]
  · omega

set_option maxHeartbeats 1600000 in
theorem arrived_any (b bf off : Nat) (a : Option Addr) (n c : Nat) (zs : List Int) (s : ByteArray) (q : Nat) (l0 p en fi ki ne va : Int) (ot : Bool) (vd : Int) (w : World)
    (hn : n ≤ 1048576) (hnc : n ≤ c) (hq : q ≤ 1048576) (hl0 : 0 ≤ l0) (hl1 : l0 ≤ 1073741824) (hql : 0 < l0 → q ≤ n) (hz : ∀ j, 0 ≤ zs.getD j 0 ∧ zs.getD j 0 ≤ 255)
    (hbk : w.heap[b]? = some (.cells (scanCells s q l0 p en fi ki ne va ot vd) 47 (0, 0)))
    (hrow : 0 < n → a = some ⟨bf, off, none⟩ ∧ bf < w.heap.size ∧ bf ≠ b ∧ ∀ j, j < n → w.cell? ⟨bf, off + j, none⟩ = some (.int .u8 (zs.getD j 0))) :
    Calls Try.prog 21 #[.pointer (some ⟨b, 0, none⟩), .slice a n c] w fun e w' => arrPost b bf off n zs s q l0 p en fi ki ne va ot vd w e w' := by
  have HB : Hid (w.heap[b]? = some (.cells (scanCells s q l0 p en fi ki ne va ot vd) 47 (0, 0))) := hbk
  clear hbk
  go_enter Try.func21, Try.ntmps21
  go_wp2
  go_loopg [5] (n - q) (fun k _ wr => ∃ t : Nat, k = n - (q + 5 * t) ∧ Hid (chain zs n q t) ∧ Hid (0 < t → l0 = 0) ∧ Hid (wr.heap[b]? = some (.cells (scanCells s ((q + 5 * t : Nat) : Int) (lft zs l0 q t) p en fi ki ne va ot vd) 47 (0, 0))) ∧ Hid (w.grownBy wr (some b)) ∧ (0 < t → q + 5 * t ≤ n))
  case atStart => exact ⟨0, rfl, fun i hi => by omega, fun h => by omega, HB.out, World.grownBy.refl w _, by omega⟩
  case round =>
    obtain ⟨t, hk, HC, HT, HK, HG, ht⟩ := hrel
    obtain ⟨g1, g2⟩ := lft_bounds hz hl0 hl1 q t
    have k1 := cell_block HK.out 1
    have k2 := cell_block HK.out 2
    have k10 := cell_block HK.out 10
    have f1 := free_block HK.out 1
    have f2 := free_block HK.out 2
    have f10 := free_block HK.out 10
    simp only [scanCells, List.getElem?_toArray, List.getElem?_cons_succ, List.getElem?_cons_zero] at k1 k2 k10
    have HL : Hid (lft zs l0 q t = lft zs l0 q t) := rfl
    generalize hlv : lft zs l0 q t = lv at *
    have HLV : Hid (lft zs l0 q t = lv) := hlv
    generalize hqv : q + 5 * t = qv at *
    have HQV : Hid (q + 5 * t = qv) := hqv
    clear hlv hqv
    clear HL
    have hqb : qv ≤ 1048576 := by
      have h2 := HQV.out
      by_cases e : t = 0
      · omega
      · have := ht (by omega); omega
    by_cases hl : lv = 0
    · have tl : (lv == 0) = true := by simpa using hl
      have HZ : Hid (lv = 0) := hl
      by_cases h5 : n < qv + 5
      · clear hl
        go_wp2
        go_ret
        exact arrPost_mk t qv lv vd HQV.out HLV.out HC.out HT.out (.inl ⟨HZ.out, rfl, .inl ⟨h5, rfl⟩⟩) HK.out HG.out
      · obtain ⟨rfl, hlt, hne, hcj⟩ := hrow (by omega)
        have c0 := (grown_cell HG.out hlt hne (off + qv)).trans (hcj qv (by omega))
        have c3 := (grown_cell HG.out hlt hne (off + (qv + 3))).trans (hcj (qv + 3) (by omega))
        have c4 := (grown_cell HG.out hlt hne (off + (qv + 4))).trans (hcj (qv + 4) (by omega))
        have z3 := hz (qv + 3)
        have z4 := hz (qv + 4)
        have HD : Hid (hdr zs qv = zs.getD (qv + 3) 0 * 256 + zs.getD (qv + 4) 0) := rfl
        have HN : Hid (q + 5 * (t + 1) = qv + 5) := by have := HQV.out; show _ = _; omega
        generalize hv0 : zs.getD qv 0 = y0 at *
        generalize zs.getD (qv + 3) 0 = y3 at *
        generalize zs.getD (qv + 4) 0 = y4 at *
        have HV0 : Hid (zs.getD qv 0 = y0) := hv0
        clear hv0 hcj hrow hz hl
        obtain ⟨y3l, y3u⟩ := z3
        obtain ⟨y4l, y4u⟩ := z4
        have hor := or_bytes y3 y4 y3l y3u y4l y4u
        by_cases h22 : y0 = 22
        · have H22 : Hid (y0 = 22) := h22
          have t22 : (y0 != 22) = false := by simp [h22]
          clear h22
          go_wp2
          go_region
          all_goals go_wp2
          have B1 := block_setCell (block_setCell HK.out 2 (.int .i64 (y3 * 256 + y4))) 1 (.int .i64 ((qv : Int) + 5))
          have G1 := grown_drew (grown_setCell (grown_setCell HG.out 2 (.int .i64 (y3 * 256 + y4))) 1 (.int .i64 ((qv : Int) + 5)))
          have C1 : chain zs n q (t + 1) := chain_next HC.out (HLV.out.trans HZ.out) (by have := HQV.out; omega) (by rw [HQV.out, HV0.out, H22.out])
          have L1 : lft zs l0 q (t + 1) = y3 * 256 + y4 := by rw [lft_next, HQV.out]; exact HD.out
          have T1 : l0 = 0 := by
            by_cases e : t = 0
            · have h := HLV.out; have h' := HZ.out; subst e; unfold lft at h; simpa [h'] using h
            · exact HT.out (by omega)
          go_roundg (n - (qv + 5))
          case measure => omega
          case rel =>
            refine ⟨t + 1, by rw [HN.out], C1, fun _ => T1, ?_, G1, fun _ => by have := HN.out; omega⟩
            show _ = _
            rw [L1, HN.out]
            exact B1
        · have t22 : (y0 != 22) = true := by simp [h22]
          go_wp2
          go_ret
          exact arrPost_mk t qv lv 2 HQV.out HLV.out HC.out HT.out (.inl ⟨HZ.out, rfl, .inr ⟨by omega, by rw [HV0.out]; exact h22, rfl⟩⟩) (block_setCell HK.out 10 (.int .i64 2)) (grown_setCell HG.out 10 _)
    · have tl : (lv == 0) = false := by simpa using hl
      have hqn : qv ≤ n := by
        by_cases e : t = 0
        · subst e
          have h1 : l0 = lv := by have := HLV.out; unfold lft at this; simpa using this
          have h2 := HQV.out
          have := hql (by omega)
          omega
        · exact ht (by omega)
      have ha : 0 < n → a = some ⟨bf, off, none⟩ := fun h => (hrow h).1
      have HA : Hid (0 < n → a = some ⟨bf, off, none⟩) := ha
      clear ha hrow
      by_cases hm : (qv : Int) + lv ≤ (n : Int)
      · go_wp2
        go_region
        all_goals go_wp2
        all_goals go_ret
        all_goals exact arrPost_mk t qv lv vd HQV.out HLV.out HC.out HT.out (.inr ⟨hl, hqn, rfl, out_mk HA.out (by omega) (.inl rfl)⟩) HK.out (grown_drew HG.out)
      · go_wp2
        go_region
        all_goals go_wp2
        all_goals go_ret
        all_goals exact arrPost_mk t qv lv vd HQV.out HLV.out HC.out HT.out (.inr ⟨hl, hqn, rfl, out_mk HA.out (by omega) (by first | exact .inl rfl | (right; omega))⟩) HK.out (grown_drew HG.out)
end Go.Proofs.Qxb6618072a

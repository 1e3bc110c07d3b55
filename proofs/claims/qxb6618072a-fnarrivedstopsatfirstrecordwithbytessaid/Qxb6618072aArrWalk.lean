/- seat b6618072a: the walk of the arrived law -/
import Derived.Test.Qxb6618072aZZArr
import Derived.Test.Qxb6618072aClone
import Derived.WalkKit
import Derived.WalkSpells
import Derived.BigRegion
import Derived.BigQuiet
import Derived.Deep.QuietTactic
namespace Go.Proofs.Qxb6618072a
open Go.RowKit

theorem bcell {W w1 : World} (hb : Below W.heap.size W w1) : (∀ b o, b < W.heap.size → w1.cell? ⟨b, o, none⟩ = W.cell? ⟨b, o, none⟩) ∧ (∀ b o, b < W.heap.size → w1.frozen? ⟨b, o, none⟩ = W.frozen? ⟨b, o, none⟩) :=
  ⟨fun b o h => hb.cell (p := ⟨b, o, none⟩) h, fun b o h => hb.frozen (p := ⟨b, o, none⟩) h⟩

theorem drop_getD (zs : List Int) (q k : Nat) : (zs.drop q).getD k 0 = zs.getD (q + k) 0 := by
  simp [List.getD_eq_getElem?_getD]

theorem lies_out {w2 w3 : World} {a2 a3 : Option Addr} {n m q bf off : Nat} {zs : List Int}
    (hr : 0 < n → a2 = some ⟨bf, off, none⟩ ∧ bf < w2.heap.size ∧ ∀ j, j < n → w2.cell? ⟨bf, off + j, none⟩ = some (.int .u8 (zs.getD j 0)))
    (ho : 0 < m → a3 = some ⟨bf, off + q, none⟩) (hm : q + m ≤ n) (hb : Below w2.heap.size w2 w3) : Lies w3 a3 m (zs.drop q) := fun h0 => by
  obtain ⟨_, h2, h3⟩ := hr (by omega)
  refine ⟨bf, off + q, ho h0, by have := hb.size; omega, fun j hj => ?_⟩
  rw [hb.cell (p := ⟨bf, off + q + j, none⟩) h2, Nat.add_assoc, h3 (q + j) (by omega), drop_getD]

set_option maxHeartbeats 1600000 in
set_option maxRecDepth 100000 in
theorem arr_pos (s : ByteArray) (p en fi ki ne va : Int) (ot : Bool) (q : Nat) (l0 vd : Int) (a : Option Addr) (n c : Nat) (zs : List Int) (w : World)
    (hb : s.size + n ≤ 1048576) (hs : s.size ≤ 524288) (hn : n ≤ 524288) (hq : q ≤ 1048576) (h0 : 0 < l0) (hl1 : l0 ≤ 1073741824) (hqn : q ≤ n)
    (hz : ∀ j, 0 ≤ zs.getD j 0 ∧ zs.getD j 0 ≤ 255) (hlie : Lies w a n zs) (hnil : a = none → n = 0 ∧ c = 0) :
    Calls Try.prog 6 #[.agg (restCells s p en fi ki ne va ot), .int .i64 q, .int .i64 l0, .int .i64 vd, .slice a n c] w fun e w' => e = .returned (.bool true) ∧ Below w.heap.size w w' := by
  have HZ : Hid (∀ j, 0 ≤ zs.getD j 0 ∧ zs.getD j 0 ≤ 255) := hz
  have HLI : Hid (Lies w a n zs) := hlie
  have HNI : Hid (a = none → n = 0 ∧ c = 0) := hnil
  clear hz hlie hnil
  have hl0 : 0 ≤ l0 := by omega
  go_enter Try.func6, Try.ntmps6
  go_wp2_with (go_at_call 14; refine (bytes14_ok s p en fi ki ne va ot _ _ _ _ _ _ _ hb).mono ?_; rintro e w' ⟨rfl, rfl⟩)
  refine (clone_any a n c zs _ (by omega) (HLI.out.below (((Below.refl _ _).alloc (Nat.le_refl _) _).alloc (by simp) _)) HNI.out).mono ?_
  rintro e w1 ⟨a1, c1, rfl, g1, G2, G3, B1⟩
  go_wp2_with fail
  refine (clone_any a1 n c1 zs _ (by omega) G2 G3).mono ?_
  rintro e w2 ⟨a2, c2, rfl, g4, G5, G6, B2⟩
  have BW : Below w.heap.size w w2 := ((((Below.refl _ _).alloc (Nat.le_refl _) _).alloc (by simp) _).trans (B1.mono (by simp; omega))).trans (B2.mono (by have := B1.size; simp at this; omega))
  have zw : w.heap.size < w2.heap.size := by have h1 := B1.size; have h2 := B2.size; simp at h1; omega
  have r2 : ∀ o, w2.cell? ⟨w.heap.size, o, none⟩ = (restCells s p en fi ki ne va ot)[o]? := fun o => by
    rw [B2.cell (p := ⟨w.heap.size, o, none⟩) (by have h1 := B1.size; simp at h1; show w.heap.size < _; omega), B1.cell (p := ⟨w.heap.size, o, none⟩) (by show w.heap.size < _; simp; omega)]
    simp
  have HL1 : Hid (Lies w2 a1 n zs) := G2.below B2
  have HL2 : Hid (Lies w2 a2 n zs) := G5
  have HBW : Hid (Below w.heap.size w w2) := BW
  clear G2 G5 B1 B2 G3 G6 BW
  go_wp2_with (go_at_call 17; refine (scan_any s p en fi ki ne va ot _ _ _ _).mono ?_; rintro e w' ⟨rfl, rfl⟩)
  obtain ⟨bf, off, hrow⟩ : ∃ bf off, 0 < n → a2 = some ⟨bf, off, none⟩ ∧ bf < w2.heap.size ∧ ∀ j, j < n → w2.cell? ⟨bf, off + j, none⟩ = some (.int .u8 (zs.getD j 0)) := by
    by_cases h : 0 < n
    · obtain ⟨b, o, h1⟩ := HL2.out h; exact ⟨b, o, fun _ => h1⟩
    · exact ⟨0, 0, fun h' => absurd h' h⟩
  have HR : Hid (0 < n → a2 = some ⟨bf, off, none⟩ ∧ bf < w2.heap.size ∧ ∀ j, j < n → w2.cell? ⟨bf, off + j, none⟩ = some (.int .u8 (zs.getD j 0))) := hrow
  refine (zzarrived_any bf off a2 n c2 zs s q l0 p en fi ki ne va ot vd _ (by omega) g4 hq hl0 hl1 (fun _ => hqn) HZ.out ?_).mono ?_
  · intro h
    obtain ⟨h1, h2, h3⟩ := hrow h
    exact ⟨h1, by simp; omega, fun j hj => by rw [World.cell?_alloc_past _ _ _ (by simp; omega), World.cell?_alloc_past _ _ _ h2]; exact h3 j hj⟩
  rintro e w3 ⟨t, v2, out, rfl, E1, E2, E3, B3⟩
  have z3 : w2.heap.size < w3.heap.size := by have h1 := B3.size; simp at h1; omega
  have r3 : ∀ o, w3.cell? ⟨w.heap.size, o, none⟩ = (restCells s p en fi ki ne va ot)[o]? := fun o => by
    rw [B3.cell (p := ⟨w.heap.size, o, none⟩) (by show w.heap.size < _; simp; omega), World.cell?_alloc_past _ _ _ (by simp; omega), World.cell?_alloc_past _ _ _ zw, r2]
  have HB3 : Hid (Below w2.heap.size w2 w3) := (((Below.refl _ _).alloc (Nat.le_refl _) _).alloc (by simp) _).trans (B3.mono (by simp; omega))
  clear B3 r2 hrow
  have zw3 : w.heap.size < w3.heap.size := by omega
  obtain rfl : t = 0 := by
    by_cases e : t = 0
    · exact e
    · have := E2 (by omega); omega
  have el : lft zs l0 q 0 = l0 := by simp [lft]
  rw [el] at E3 ⊢
  rw [show q + 5 * 0 = q by omega] at E3 ⊢
  obtain ⟨e1, _⟩ | ⟨_, _, rfl, a3, c3, rfl, e4⟩ := E3
  · omega
  have HO : Hid (0 < (min l0 ((n : Int) - (q : Int))).toNat → a3 = some ⟨bf, off + q, none⟩) := e4
  obtain ⟨m, hm⟩ : ∃ m : Nat, (min l0 ((n : Int) - (q : Int))).toNat = m := ⟨_, rfl⟩
  rw [hm] at HO ⊢
  have HM : Hid ((min l0 ((n : Int) - (q : Int))).toNat = m) := hm
  have hmn : q + m ≤ n := by omega
  clear E1 E2 el e4 hm
  have HLO : Hid (Lies w3 a3 m (zs.drop q)) := lies_out HR.out HO.out hmn HB3.out
  have HL1' : Hid (Lies w3 a1 n zs) := HL1.out.below HB3.out
  have HBW' : Hid (Below w.heap.size w w3) := HBW.out.trans (HB3.out.mono (by omega))
  clear HR HO HL1 HL2 HBW HB3
  by_cases hlt : l0 < (n : Int) - (q : Int)
  · have m1 : l0 ≤ (m : Int) := by have := HM.out; omega
    have m2 : (m : Int) ≤ l0 := by have := HM.out; omega
    have tm : ((m : Int) != l0) = false := by simp; omega
    go_wp2_with (go_at_call 18; refine (kept_any s p en fi ki ne va ot _ _ _ _).mono ?_; rintro e w' ⟨rfl, rfl⟩)
    go_loopw [20] (fun i wr => ∃ k : Nat, k ≤ m ∧ i = .int .i64 k ∧ Hid (Lies wr a1 n zs) ∧ Hid (Lies wr a3 m (zs.drop q)) ∧ Hid (Below w.heap.size w wr)) (fun i _ => m - (intOf i).toNat)
    case atStart => exact ⟨0, by omega, rfl, HL1'.out.below ((((Below.refl _ _).alloc (Nat.le_refl _) _).alloc (by simp) _).alloc (by simp; omega) _), HLO.out.below ((((Below.refl _ _).alloc (Nat.le_refl _) _).alloc (by simp) _).alloc (by simp; omega) _), HBW'.out.trans (((((Below.refl _ _).alloc (Nat.le_refl _) _).alloc (by simp) _).alloc (by simp; omega) _).mono (by omega))⟩
    case round =>
      obtain ⟨k, hk, rfl, J1, J2, J3⟩ := hrel
      by_cases hkm : k < m
      · obtain ⟨b1, o1, rfl, _, k1⟩ := J1.out (by omega)
        obtain ⟨b3, o3, rfl, _, k3⟩ := J2.out (by omega)
        have c1 := k1 (q + k) (by omega)
        have c3 := k3 k hkm
        rw [drop_getD] at c3
        generalize zs.getD (q + k) 0 = y at c1 c3
        clear k1 k3
        go_wp2
        go_region
        all_goals go_wp2
        go_roundw
        case rel => exact ⟨k + 1, by omega, by go_num, J1.out.below ((Below.refl _ _).drew), J2.out.below ((Below.refl _ _).drew), J3.out.drew⟩
        case measure => simp [intOf]; omega
      · go_wp2
        go_ret
        exact ⟨rfl, J3.out⟩
  · have m1 : (n : Int) - (q : Int) ≤ (m : Int) := by have := HM.out; omega
    have m2 : (m : Int) ≤ (n : Int) - (q : Int) := by have := HM.out; omega
    have tm : ((m : Int) != (n : Int) - (q : Int)) = false := by simp; omega
    go_wp2_with (go_at_call 18; refine (kept_any s p en fi ki ne va ot _ _ _ _).mono ?_; rintro e w' ⟨rfl, rfl⟩)
    go_loopw [20] (fun i wr => ∃ k : Nat, k ≤ m ∧ i = .int .i64 k ∧ Hid (Lies wr a1 n zs) ∧ Hid (Lies wr a3 m (zs.drop q)) ∧ Hid (Below w.heap.size w wr)) (fun i _ => m - (intOf i).toNat)
    case atStart => exact ⟨0, by omega, rfl, HL1'.out.below ((((Below.refl _ _).alloc (Nat.le_refl _) _).alloc (by simp) _).alloc (by simp; omega) _), HLO.out.below ((((Below.refl _ _).alloc (Nat.le_refl _) _).alloc (by simp) _).alloc (by simp; omega) _), HBW'.out.trans (((((Below.refl _ _).alloc (Nat.le_refl _) _).alloc (by simp) _).alloc (by simp; omega) _).mono (by omega))⟩
    case round =>
      obtain ⟨k, hk, rfl, J1, J2, J3⟩ := hrel
      by_cases hkm : k < m
      · obtain ⟨b1, o1, rfl, _, k1⟩ := J1.out (by omega)
        obtain ⟨b3, o3, rfl, _, k3⟩ := J2.out (by omega)
        have c1 := k1 (q + k) (by omega)
        have c3 := k3 k hkm
        rw [drop_getD] at c3
        generalize zs.getD (q + k) 0 = y at c1 c3
        clear k1 k3
        go_wp2
        go_region
        all_goals go_wp2
        go_roundw
        case rel => exact ⟨k + 1, by omega, by go_num, J1.out.below ((Below.refl _ _).drew), J2.out.below ((Below.refl _ _).drew), J3.out.drew⟩
        case measure => simp [intOf]; omega
      · go_wp2
        go_ret
        exact ⟨rfl, J3.out⟩
end Go.Proofs.Qxb6618072a

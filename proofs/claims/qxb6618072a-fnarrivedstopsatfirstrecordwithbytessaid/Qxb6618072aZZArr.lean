/- seat b6618072a: the contract of ZZArrived -/
import Derived.Test.Qxb6618072aArrived
import Derived.WalkKit
import Derived.WalkSpells
import Derived.BigRegion
import Derived.Deep.RegionHeld3
namespace Go.Proofs.Qxb6618072a
open Go.RowKit

/-- what ZZArrived hands back, for a scan at place q with l0 left; nothing old has turned -/
def zzPost (bf off n : Nat) (zs : List Int) (s : ByteArray) (q : Nat) (l0 p en fi ki ne va : Int) (ot : Bool) (vd : Int) (w : World) (e : Ending) (w' : World) : Prop :=
  ∃ t v2 out, e = .returned (.tuple #[.agg (scanCells s ((q + 5 * t : Nat) : Int) (lft zs l0 q t) p en fi ki ne va ot v2), out]) ∧ chain zs n q t ∧ (0 < t → l0 = 0) ∧
    stops zs n (q + 5 * t) (lft zs l0 q t) vd v2 out bf off ∧ Below w.heap.size w w'

theorem zzPost_mk {bf off n : Nat} {zs : List Int} {s : ByteArray} {q : Nat} {l0 p en fi ki ne va : Int} {ot : Bool} {vd : Int} {w w' : World} {out : Value} (t : Nat) (qv lv v2 : Int)
    (hq : ((q + 5 * t : Nat) : Int) = qv) (hl : lft zs l0 q t = lv) (h1 : chain zs n q t) (h2 : 0 < t → l0 = 0) (h3 : stops zs n (q + 5 * t) lv vd v2 out bf off) (h4 : Below w.heap.size w w') :
    zzPost bf off n zs s q l0 p en fi ki ne va ot vd w (.returned (.tuple #[.agg (scanCells s qv lv p en fi ki ne va ot v2), out])) w' := by
  subst hq hl; exact ⟨t, v2, out, rfl, h1, h2, h3, h4⟩

set_option maxHeartbeats 1600000 in
theorem zzarrived_any (bf off : Nat) (a : Option Addr) (n c : Nat) (zs : List Int) (s : ByteArray) (q : Nat) (l0 p en fi ki ne va : Int) (ot : Bool) (vd : Int) (w : World)
    (hn : n ≤ 1048576) (hnc : n ≤ c) (hq : q ≤ 1048576) (hl0 : 0 ≤ l0) (hl1 : l0 ≤ 1073741824) (hql : 0 < l0 → q ≤ n) (hz : ∀ j, 0 ≤ zs.getD j 0 ∧ zs.getD j 0 ≤ 255)
    (hrow : 0 < n → a = some ⟨bf, off, none⟩ ∧ bf < w.heap.size ∧ ∀ j, j < n → w.cell? ⟨bf, off + j, none⟩ = some (.int .u8 (zs.getD j 0))) :
    Calls Try.prog 16 #[.agg (scanCells s q l0 p en fi ki ne va ot vd), .slice a n c] w fun e w' => zzPost bf off n zs s q l0 p en fi ki ne va ot vd w e w' := by
  go_enter Try.func16, Try.ntmps16
  go_wp2_with fail
  refine (arrived_any (w.heap.size + 1 + 1) bf off a n c zs s q l0 p en fi ki ne va ot vd _ hn hnc hq hl0 hl1 hql hz ?_ ?_).mono ?_
  · show (((w.heap.push _).push _).push _)[w.heap.size + 1 + 1]? = _
    rw [Array.getElem?_push, if_pos (by simp)]
  · intro h0
    obtain ⟨ha, hlt, hc⟩ := hrow h0
    refine ⟨ha, by simp; omega, by omega, fun j hj => ?_⟩
    rw [World.cell?_alloc_past _ _ _ (by simp; omega), World.cell?_alloc_past _ _ _ (by simp; omega), World.cell?_alloc_past _ _ _ hlt]
    exact hc j hj
  rintro e w1 ⟨t, v2, out, rfl, h1, h2, h3, h4, h5⟩
  have hz1 : w1.heap[w.heap.size + 1]? = some (.cells #[.string ByteArray.empty, .int .i64 0, .int .i64 0, .int .i64 0, .int .i64 0, .int .i64 0, .int .i64 0, .int .i64 0, .int .i64 0, .bool false, .int .i64 0] 37 (0, 0)) := by
    rw [h5.block (w.heap.size + 1) (by simp) (by simp)]
    show ((w.heap.push _).push _ |>.push _)[w.heap.size + 1]? = _
    rw [Array.getElem?_push, if_neg (by simp), Array.getElem?_push, if_pos (by simp)]
    rfl
  have HP : Hid (chain zs n q t ∧ (0 < t → l0 = 0) ∧ stops zs n (q + 5 * t) (lft zs l0 q t) vd v2 out bf off) := ⟨h1, h2, h3⟩
  have HG : Hid (World.grownBy _ w1 (some (w.heap.size + 1 + 1))) := h5
  clear h1 h2 h3 h5
  generalize hlv : lft zs l0 q t = lv at *
  have HL : Hid (lft zs l0 q t = lv) := hlv
  clear hlv
  generalize hqv : ((q + 5 * t : Nat) : Int) = qv at *
  have HQ : Hid (((q + 5 * t : Nat) : Int) = qv) := hqv
  clear hqv hrow
  have HB : Hid (w1.heap[w.heap.size + 1 + 1]? = some (.cells (scanCells s qv lv p en fi ki ne va ot v2) 47 (0, 0))) := h4
  have HZ : Hid (w1.heap[w.heap.size + 1]? = some (.cells #[.string ByteArray.empty, .int .i64 0, .int .i64 0, .int .i64 0, .int .i64 0, .int .i64 0, .int .i64 0, .int .i64 0, .int .i64 0, .bool false, .int .i64 0] 37 (0, 0))) := hz1
  have cs := fun o => cell_block h4 o
  have zc := fun o => cell_block hz1 o
  have zf := fun o => free_block hz1 o
  have s0 := cs 0; have s1 := cs 1; have s2 := cs 2; have s3 := cs 3; have s4 := cs 4; have s5 := cs 5; have s6 := cs 6; have s7 := cs 7; have s8 := cs 8; have s9 := cs 9; have s10 := cs 10
  have z0 := zc 0; have z1 := zc 1; have z2 := zc 2; have z3 := zc 3; have z4 := zc 4; have z5 := zc 5; have z6 := zc 6; have z7 := zc 7; have z8 := zc 8; have z9 := zc 9; have z10 := zc 10
  have f0 := zf 0; have f1 := zf 1; have f2 := zf 2; have f3 := zf 3; have f4 := zf 4; have f5 := zf 5; have f6 := zf 6; have f7 := zf 7; have f8 := zf 8; have f9 := zf 9; have f10 := zf 10
  clear cs zc zf h4 hz1
  simp only [scanCells, List.getElem?_toArray, List.getElem?_cons_succ, List.getElem?_cons_zero] at s0 s1 s2 s3 s4 s5 s6 s7 s8 s9 s10 z0 z1 z2 z3 z4 z5 z6 z7 z8 z9 z10
  go_wp2_with fail
  go_region_held3 (fun w' => w'.cell? ⟨w.heap.size + 1 + 1, 0, none⟩ = some (.string s) ∧ w'.cell? ⟨w.heap.size + 1 + 1, 1, none⟩ = some (.int .i64 qv) ∧ w'.cell? ⟨w.heap.size + 1 + 1, 2, none⟩ = some (.int .i64 lv) ∧ w'.cell? ⟨w.heap.size + 1 + 1, 3, none⟩ = some (.int .i64 p) ∧ w'.cell? ⟨w.heap.size + 1 + 1, 4, none⟩ = some (.int .i64 en) ∧ w'.cell? ⟨w.heap.size + 1 + 1, 5, none⟩ = some (.int .i64 fi) ∧ w'.cell? ⟨w.heap.size + 1 + 1, 6, none⟩ = some (.int .i64 ki) ∧ w'.cell? ⟨w.heap.size + 1 + 1, 7, none⟩ = some (.int .i64 ne) ∧ w'.cell? ⟨w.heap.size + 1 + 1, 8, none⟩ = some (.int .i64 va) ∧ w'.cell? ⟨w.heap.size + 1 + 1, 9, none⟩ = some (.bool ot) ∧ w'.cell? ⟨w.heap.size + 1 + 1, 10, none⟩ = some (.int .i64 v2)) (go_keep) (fail)
  go_wp2
  refine bodyPost_ret (v := .tuple #[.agg (scanCells s qv lv p en fi ki ne va ot v2), out]) (by simp [results, Try.results16, go_sem, scanCells, z0, z1, z2, z3, z4, z5, z6, z7, z8, z9, z10]) rfl ?_
  obtain ⟨P1, P2, P3⟩ := HP.out
  refine zzPost_mk t qv lv v2 HQ.out HL.out P1 P2 P3 ?_
  have hB : Below w.heap.size w w1 := ((((Below.refl _ _).alloc (Nat.le_refl _) _).alloc (by simp) _).alloc (by simp; omega) _).grown HG.out (by simp; omega) (fun k hk => by simp at hk; omega)
  refine Below.drew ?_
  repeat (refine Below.setCell ?_ (by simp) _)
  exact hB
end Go.Proofs.Qxb6618072a

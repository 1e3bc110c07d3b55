/- seat b6618072a: the contract of zzCommonLen, and what the common prefix says of the verdict -/
import Derived.Test.Qxb6618072aOneOf
import Derived.WalkKit
import Derived.WalkSpells
import Derived.BigRegion
import Derived.BigQuiet
import Derived.Deep.QuietTactic
import Derived.Deep.Draws
namespace Go.Proofs.Qxb6618072a
open Go.RowKit

/-- l is the length of the longest common prefix of xs and ys -/
def isCl (xs ys : List Int) (l : Nat) : Prop := l ≤ xs.length ∧ l ≤ ys.length ∧ (∀ j, j < l → xs.getD j 0 = ys.getD j 0) ∧ (l < xs.length → l < ys.length → xs.getD l 0 ≠ ys.getD l 0)

theorem take_eq_of {xs ys : List Int} (h1 : ys.length ≤ xs.length) (h : ∀ j, j < ys.length → xs.getD j 0 = ys.getD j 0) : xs.take ys.length = ys := by
  apply List.ext_getElem (by simp; omega)
  intro i h2 h3
  have := h i h3
  have h4 : i < xs.length := by omega
  simp [h3, h4] at this
  simp [this]

theorem cl_mp {xs ys : List Int} {l : Nat} (h : isCl xs ys l) : mp xs ys = if l = ys.length then 1 else if l = xs.length then 0 else 2 := by
  obtain ⟨h1, h2, h3, h4⟩ := h
  split
  · rename_i e; subst e
    exact (mp_eq1 xs ys).2 ⟨h1, take_eq_of h1 h3⟩
  · split
    · rename_i e1 e2; subst e2
      exact (mp_eq0 xs ys).2 ⟨by omega, take_eq_of h2 fun j hj => (h3 j hj).symm⟩
    · rename_i e1 e2
      have hx : l < xs.length := by omega
      have hy : l < ys.length := by omega
      have hne := h4 hx hy
      rcases mp_vals xs ys with e | e | e
      · exfalso
        obtain ⟨a1, a2⟩ := (mp_eq0 xs ys).1 e
        apply hne
        rw [← a2]; simp [hx]
      · exfalso
        obtain ⟨a1, a2⟩ := (mp_eq1 xs ys).1 e
        apply hne
        rw [← a2]; simp [hy]
      · exact e

def commonPost (xs ys : List Int) (w : World) (e : Ending) (w' : World) : Prop := ∃ l : Nat, e = .returned (.int .i64 l) ∧ isCl xs ys l ∧ ∃ q, w' = w.drewN q
theorem commonPost_mk {xs ys : List Int} {w : World} (n m l q r : Nat) (hx : xs.length = n) (hy : ys.length = m) (h1 : l ≤ n) (h2 : l ≤ m) (h3 : ∀ j, j < l → xs.getD j 0 = ys.getD j 0) (h4 : l < n → l < m → xs.getD l 0 ≠ ys.getD l 0) :
    commonPost xs ys w (.returned (.int .i64 l)) ((w.drewN q).drewN r) := ⟨l, rfl, ⟨by omega, by omega, h3, by rw [hx, hy]; exact h4⟩, q + r, by unfold World.drewN; simp [Nat.add_assoc]⟩

set_option maxHeartbeats 800000 in
theorem common_any (a1 a2 : Option Addr) (n c m d : Nat) (xs ys : List Int) (w : World) (hx : xs.length = n) (hy : ys.length = m) (hn : n ≤ 9223372036854775807) (hm : m ≤ 9223372036854775807)
    (h1 : Lies w a1 n xs) (h2 : Lies w a2 m ys) :
    Calls Try.prog 10 #[.slice a1 n c, .slice a2 m d] w fun e w' => commonPost xs ys w e w' := by
  have HX : Hid (xs.length = n) := hx
  have HY : Hid (ys.length = m) := hy
  have H1 : Hid (Lies w a1 n xs) := h1
  have H2 : Hid (Lies w a2 m ys) := h2
  clear hx hy h1 h2
  go_enter Try.func10, Try.ntmps10
  go_wp2
  go_loopw [5] (fun i wr => ∃ (k : Nat) (q : Nat), k ≤ n ∧ k ≤ m ∧ i = .int .i64 k ∧ wr = w.drewN q ∧ Hid (∀ j, j < k → xs.getD j 0 = ys.getD j 0)) (fun i _ => n - (intOf i).toNat)
  case atStart => exact ⟨0, 0, by omega, by omega, rfl, rfl, fun j hj => by omega⟩
  case round =>
    obtain ⟨k, q, hkn, hkm, rfl, rfl, HK⟩ := hrel
    by_cases l1 : k < n
    · by_cases l2 : k < m
      · obtain ⟨b1, o1, rfl, _, k1⟩ := H1.out (by omega)
        obtain ⟨b2, o2, rfl, _, k2⟩ := H2.out (by omega)
        have c1 : w.cell? ⟨b1, o1 + k, none⟩ = some (.int .u8 (xs.getD k 0)) := k1 k l1
        have c2 : w.cell? ⟨b2, o2 + k, none⟩ = some (.int .u8 (ys.getD k 0)) := k2 k l2
        clear k1 k2
        by_cases he : xs.getD k 0 = ys.getD k 0
        · have HE : Hid (xs.getD k 0 = ys.getD k 0) := he
          rw [he] at c1
          generalize ys.getD k 0 = y at c1 c2
          clear he
          have i1 : (k : Int) < (n : Int) := by omega
          have i2 : (k : Int) < (m : Int) := by omega
          go_wp2
          go_quiet (fail)
          go_wp2
          go_roundw
          case rel => exact ⟨k + 1, q + nq, by omega, by omega, by go_num, rfl, fun j hj => by
            by_cases e : j = k
            · rw [e]; exact HE.out
            · exact HK.out j (by omega)⟩
          case measure => simp [intOf]; omega
        · have tf : (xs.getD k 0 == ys.getD k 0) = false := by simpa using he
          have HF : Hid (xs.getD k 0 ≠ ys.getD k 0) := he
          generalize xs.getD k 0 = x at c1 tf
          generalize ys.getD k 0 = y at c2 tf
          have i1 : (k : Int) < (n : Int) := by omega
          have i2 : (k : Int) < (m : Int) := by omega
          clear he
          go_wp2
          go_quiet (fail)
          go_wp2
          go_ret
          exact commonPost_mk n m k q nq HX.out HY.out hkn hkm HK.out (fun _ _ => HF.out)
      · have i1 : (k : Int) < (n : Int) := by omega
        have i2 : decide ((k : Int) < (m : Int)) = false := decide_eq_false (by omega)
        go_wp2
        go_quiet (fail)
        go_wp2
        go_ret
        exact commonPost_mk n m k q nq HX.out HY.out hkn hkm HK.out (fun _ h => absurd h l2)
    · have i1 : decide ((k : Int) < (n : Int)) = false := decide_eq_false (by omega)
      go_wp2
      go_quiet (fail)
      go_wp2
      go_ret
      exact commonPost_mk n m k q nq HX.out HY.out hkn hkm HK.out (fun h _ => absurd h l1)
end Go.Proofs.Qxb6618072a

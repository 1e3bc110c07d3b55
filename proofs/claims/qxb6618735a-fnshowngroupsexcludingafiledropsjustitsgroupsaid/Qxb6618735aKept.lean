/- seat b6618735a: whether a group is shown, whether it is kept -/
import Derived.Test.Qxb6618735aGrp
namespace Go.Proofs.Qxb6618735a
open Go.RowKit

/-- given as stats -/
def isSt (b : ByteArray) : Bool := b.toList == [115, 116, 97, 116, 115]
theorem isSt_pos {b : ByteArray} (h : isSt b = true) : (b.toList == [115, 116, 97, 116, 115]) = true := h
theorem isSt_neg {b : ByteArray} (h : isSt b = false) : (b.toList == [115, 116, 97, 116, 115]) = false := h

/-- a file of the group x is not given as stats -/
def Shn (F : Fs) (ln : Nat → Nat) (x : Nat) : Prop := ∃ t, t < ln x ∧ isSt (F.treat (x + t)) = false
/-- a file of the group x is excluded -/
def Drp (ex : Nat → Bool) (ln : Nat → Nat) (x : Nat) : Prop := ∃ t, t < ln x ∧ ex (x + t) = true

def lastPost (F : Fs) (ln : Nat → Nat) (x : Nat) (w : World) (e : Ending) (w' : World) : Prop :=
  ∃ p : Option Addr, e = .returned (.pointer p) ∧ w' = w ∧ (p ≠ none ↔ Shn F ln x)

set_option maxHeartbeats 800000 in
theorem last_any (F : Fs) (ex : Nat → Bool) (st ln Gb : Nat → Nat) (BR BF : Nat) (w : World) (x : Nat) (hn : F.n ≤ 4096) (R : Rep F ex st ln Gb BR BF w) (v : Vd F st ln x) :
    Calls Try.prog 20 #[encG Gb ln x] w fun e w' => lastPost F ln x w e w' := by
  have HR : Hid (Rep F ex st ln Gb BR BF w) := R
  have HV : Hid (Vd F st ln x) := v
  have hl := v.le
  clear R v
  go_enter Try.func20, Try.ntmps20
  go_wp2
  go_loopw [3] (fun i wr => ∃ t : Nat, t ≤ ln x ∧ i = .int .i64 ((t : Int) - 1) ∧ wr = w ∧ Hid (∀ k, t ≤ k → k < ln x → isSt (F.treat (x + k)) = true)) (fun i _ => (intOf i + 1).toNat)
  case atStart => exact ⟨ln x, by omega, by go_num, rfl, fun k h1 h2 => by omega⟩
  case round =>
    obtain ⟨t, ht, rfl, rfl, HK⟩ := hrel
    by_cases hlt : 0 < t
    · obtain ⟨u, rfl⟩ : ∃ u, t = u + 1 := ⟨t - 1, by omega⟩
      rw [show (((u + 1 : Nat) : Int) - 1) = (u : Int) by omega]
      have c1 := HR.out.at HV.out u (by omega)
      have c2 := HR.out.treat (x + u) (by omega)
      cases hs : isSt (F.treat (x + u))
      · have HP : Hid (Shn F ln x) := ⟨u, by omega, hs⟩
        have h1 := isSt_neg hs
        go_wp2
        go_ret
        exact ⟨_, rfl, rfl, fun _ => HP.out, fun _ => by simp⟩
      · have HK' : Hid (∀ k, u ≤ k → k < ln x → isSt (F.treat (x + k)) = true) := fun k h1 h2 => by
          rcases Nat.eq_or_lt_of_le h1 with e | e
          · rw [← e]; exact hs
          · exact HK.out k e h2
        have h1 := isSt_pos hs
        go_wp2
        go_roundw
        case rel => exact ⟨u, by omega, by go_num, trivial, HK'⟩
        case measure => simp [intOf]
    · obtain rfl : t = 0 := by omega
      go_wp2
      go_ret
      exact ⟨_, rfl, rfl, fun h => absurd rfl h, fun ⟨k, h1, h2⟩ => by have := HK.out k (by omega) h1; rw [h2] at this; cases this⟩

theorem keep_any (w : World) (BF i : Nat) (b : Bool) (c : w.cell? ⟨BF, i * 18 + 9, none⟩ = some (.bool b)) :
    Calls Try.prog 17 #[.pointer (some ⟨BF, i * 18, none⟩)] w fun e w' => e = .returned (.bool (!b)) ∧ w' = w := by
  go_enter Try.func17, Try.ntmps17
  go_wp2
  go_ret
  exact ⟨rfl, rfl⟩

theorem drop_any (w : World) (BF bx i : Nat) (b : Bool) (c : w.cell? ⟨BF, i * 18 + 9, none⟩ = some (.bool b)) (cb : w.cell? ⟨bx, 0, none⟩ = some (.func (.func 17) #[] #[])) :
    Calls Try.prog 22 #[.pointer (some ⟨BF, i * 18, none⟩), .pointer (some ⟨bx, 0, none⟩)] w fun e w' => e = .returned (.bool b) ∧ w' = w := by
  go_enter Try.func22, Try.ntmps22
  go_wp2_with (go_at_call 17; refine (keep_any w BF i b c).mono ?_; rintro e w' ⟨rfl, rfl⟩)
  go_ret
  exact ⟨by simp, rfl⟩

def idxPost (ex : Nat → Bool) (ln : Nat → Nat) (x : Nat) (w : World) (e : Ending) (w' : World) : Prop :=
  ∃ z : Int, e = .returned (.int .i64 z) ∧ w' = w ∧ (0 ≤ z ↔ Drp ex ln x)

set_option maxHeartbeats 800000 in
theorem index_any (F : Fs) (ex : Nat → Bool) (st ln Gb : Nat → Nat) (BR BF bx : Nat) (w : World) (x : Nat) (hn : F.n ≤ 4096) (R : Rep F ex st ln Gb BR BF w) (v : Vd F st ln x) (cb : w.cell? ⟨bx, 0, none⟩ = some (.func (.func 17) #[] #[])) :
    Calls Try.prog 27 #[encG Gb ln x, .func (.func 22) #[] #[.pointer (some ⟨bx, 0, none⟩)]] w fun e w' => idxPost ex ln x w e w' := by
  have HR : Hid (Rep F ex st ln Gb BR BF w) := R
  have HV : Hid (Vd F st ln x) := v
  have hl := v.le
  clear R v
  go_enter Try.func27, Try.ntmps27
  go_wp2
  go_loopw [8] (fun i wr => ∃ t : Nat, t ≤ ln x ∧ i = .int .i64 t ∧ wr = w ∧ Hid (∀ k, k < t → ex (x + k) = false)) (fun i _ => ln x - (intOf i).toNat)
  case atStart => exact ⟨0, by omega, rfl, rfl, fun k h => by omega⟩
  case round =>
    obtain ⟨t, ht, rfl, hw, HK⟩ := hrel
    obtain rfl := hw.symm
    by_cases hlt : t < ln x
    · have c1 := HR.out.at HV.out t hlt
      have c := drop_any w BF bx (x + t) _ (HR.out.exc (x + t) (by omega)) cb
      go_wp2_with fail
      refine c.mono ?_
      rintro e w1 ⟨rfl, hw⟩
      obtain rfl := hw.symm
      cases hs : ex (x + t)
      · have HK' : Hid (∀ k, k < t + 1 → ex (x + k) = false) := fun k h => by
          rcases Nat.eq_or_lt_of_le (Nat.le_of_lt_succ h) with e | e
          · rw [e]; exact hs
          · exact HK.out k e
        go_wp2
        go_roundw
        case rel => exact ⟨t + 1, by omega, by go_num, trivial, HK'⟩
        case measure => simp [intOf]; omega
      · have HP : Hid (Drp ex ln x) := ⟨t, by omega, hs⟩
        go_wp2
        go_ret
        exact ⟨_, rfl, rfl, fun _ => HP.out, fun _ => by omega⟩
    · obtain rfl : t = ln x := by omega
      go_wp2
      go_ret
      exact ⟨_, rfl, rfl, fun h => by omega, fun ⟨k, h1, h2⟩ => by have := HK.out k h1; rw [h2] at this; cases this⟩

def hasPost (ex : Nat → Bool) (ln : Nat → Nat) (x : Nat) (w : World) (e : Ending) (w' : World) : Prop :=
  ∃ z : Bool, e = .returned (.bool z) ∧ w' = w ∧ (z = true ↔ Drp ex ln x)

theorem contains_any (F : Fs) (ex : Nat → Bool) (st ln Gb : Nat → Nat) (BR BF bx : Nat) (w : World) (x : Nat) (hn : F.n ≤ 4096) (R : Rep F ex st ln Gb BR BF w) (v : Vd F st ln x) (cb : w.cell? ⟨bx, 0, none⟩ = some (.func (.func 17) #[] #[])) :
    Calls Try.prog 21 #[encG Gb ln x, .func (.func 22) #[] #[.pointer (some ⟨bx, 0, none⟩)]] w fun e w' => hasPost ex ln x w e w' := by
  have c := index_any F ex st ln Gb BR BF bx w x hn R v cb
  clear R v cb hn
  go_enter Try.func21, Try.ntmps21
  go_wp2_with fail
  refine c.mono ?_
  rintro e w1 ⟨z, rfl, rfl, hz⟩
  go_wp2
  go_ret
  exact ⟨_, rfl, rfl, by simpa using hz⟩
end Go.Proofs.Qxb6618735a

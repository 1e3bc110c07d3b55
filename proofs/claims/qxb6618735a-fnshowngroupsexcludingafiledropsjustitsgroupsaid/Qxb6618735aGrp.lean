/- seat b6618735a: what is read of one group: its size, the comparison of two, whether it is shown, whether it is kept -/
import Derived.Test.Qxb6618735aView
namespace Go.Proofs.Qxb6618735a
open Go.RowKit

theorem drewN_two (w : World) (a b : Nat) : (w.drewN a).drewN b = w.drewN (a + b) := by unfold World.drewN; simp [Nat.add_assoc]

/-- x starts a group that lies in the files -/
structure Vd (F : Fs) (st ln : Nat → Nat) (x : Nat) : Prop where
  lt : x < F.n
  st : st x = x
  pos : 0 < ln x
  le : x + ln x ≤ F.n

/-- the change of t files from s on -/
def szTo (F : Fs) (s : Nat) : Nat → Int
  | 0 => 0
  | t + 1 => szTo F s t + (F.add (s + t) + F.del (s + t))

structure Bd (F : Fs) : Prop where
  n : F.n ≤ 4096
  add : ∀ i, i < F.n → 0 ≤ F.add i
  del : ∀ i, i < F.n → 0 ≤ F.del i
  sum : szTo F 0 F.n ≤ 2 ^ 30

theorem szTo_add (F : Fs) (s : Nat) : ∀ t, szTo F 0 (s + t) = szTo F 0 s + szTo F s t
  | 0 => by simp [szTo]
  | t + 1 => by
    have := szTo_add F s t
    rw [← Nat.add_assoc]
    simp only [szTo, this, Nat.zero_add]
    omega

theorem Bd.nonneg {F : Fs} (b : Bd F) (s : Nat) : ∀ t, s + t ≤ F.n → 0 ≤ szTo F s t
  | 0, _ => by simp [szTo]
  | t + 1, h => by
    have := b.nonneg s t (by omega)
    have h1 := b.add (s + t) (by omega)
    have h2 := b.del (s + t) (by omega)
    simp only [szTo]; omega

theorem Bd.le {F : Fs} (b : Bd F) (s t : Nat) (h : s + t ≤ F.n) : szTo F s t ≤ 2 ^ 30 := by
  have h1 := szTo_add F s t
  have h2 := szTo_add F (s + t) (F.n - (s + t))
  rw [show s + t + (F.n - (s + t)) = F.n by omega] at h2
  have h3 := b.nonneg (s + t) (F.n - (s + t)) (by omega)
  have h4 := b.nonneg 0 s (by omega)
  have := b.sum
  omega

theorem Bd.one {F : Fs} (b : Bd F) (i : Nat) (h : i < F.n) : F.add i + F.del i ≤ 2 ^ 30 := by
  have := b.le i 1 (by omega)
  simpa [szTo] using this

section
variable {F : Fs} {ex : Nat → Bool} {st ln Gb : Nat → Nat} {BR BF : Nat} {w : World}
theorem Rep.at (R : Rep F ex st ln Gb BR BF w) {x : Nat} (v : Vd F st ln x) (t : Nat) (ht : t < ln x) : w.cell? ⟨Gb x, t, none⟩ = some (.pointer (some ⟨BF, (x + t) * 18, none⟩)) := by
  have := R.ptr x v.lt t (by rw [v.st]; exact ht)
  rwa [v.st] at this
theorem Rep.at0 (R : Rep F ex st ln Gb BR BF w) {x : Nat} (v : Vd F st ln x) : w.cell? ⟨Gb x, 0, none⟩ = some (.pointer (some ⟨BF, x * 18, none⟩)) := by
  simpa using R.at v 0 v.pos
end

set_option maxHeartbeats 800000 in
theorem size_any (F : Fs) (ex : Nat → Bool) (st ln Gb : Nat → Nat) (BR BF : Nat) (w : World) (x : Nat) (b : Bd F) (R : Rep F ex st ln Gb BR BF w) (v : Vd F st ln x) :
    Calls Try.prog 25 #[encG Gb ln x] w fun e w' => e = .returned (.int .i64 (szTo F x (ln x))) ∧ ∃ q, w' = w.drewN q := by
  have HB : Hid (Bd F) := b
  have HR : Hid (Rep F ex st ln Gb BR BF w) := R
  have HV : Hid (Vd F st ln x) := v
  have hl := v.le
  have hn := b.n
  clear b R v
  go_enter Try.func25, Try.ntmps25
  go_wp2
  go_loopw [3, 8] (fun s i wr => ∃ t q : Nat, t ≤ ln x ∧ s = .int .i64 (szTo F x t) ∧ i = .int .i64 t ∧ wr = w.drewN q) (fun _ i _ => ln x - (intOf i).toNat)
  case atStart => exact ⟨0, 0, by omega, rfl, rfl, rfl⟩
  case round =>
    obtain ⟨t, q, ht, rfl, rfl, rfl⟩ := hrel
    by_cases hlt : t < ln x
    · have c1 := (HR.out.drewN q).at HV.out t hlt
      have c := change_any (w.drewN q) BF (x + t) _ _ (HB.out.add (x + t) (by omega)) (HB.out.del (x + t) (by omega)) (HB.out.one (x + t) (by omega)) ((HR.out.drewN q).add _ (by omega)) ((HR.out.drewN q).del _ (by omega))
      have b1 := HB.out.nonneg x t (by omega)
      have b2 := HB.out.le x t (by omega)
      have b3 := HB.out.nonneg x (t + 1) (by omega)
      have b4 := HB.out.le x (t + 1) (by omega)
      simp only [szTo] at b3 b4
      go_wp2_with fail
      refine c.mono ?_
      rintro e w1 ⟨rfl, q', rfl⟩
      go_wp2
      go_roundw
      case rel => exact ⟨t + 1, q + q', by omega, by simp only [szTo], by go_num, rfl⟩
      case measure => simp [intOf]; omega
    · obtain rfl : t = ln x := by omega
      go_wp2
      go_ret
      exact ⟨rfl, q, rfl⟩

/-- what the comparison answers -/
def cfOf (F : Fs) (ln : Nat → Nat) (x y : Nat) : Int :=
  if szTo F x (ln x) - szTo F y (ln y) = 0 then Lib.compareBytes (F.path x).data.toList (F.path y).data.toList else szTo F x (ln x) - szTo F y (ln y)

set_option maxHeartbeats 800000 in
theorem cmp_any (F : Fs) (ex : Nat → Bool) (st ln Gb : Nat → Nat) (BR BF : Nat) (w : World) (x y : Nat) (b : Bd F) (R : Rep F ex st ln Gb BR BF w) (vx : Vd F st ln x) (vy : Vd F st ln y) :
    Calls Try.prog 24 #[encG Gb ln x, encG Gb ln y] w fun e w' => e = .returned (.int .i64 (cfOf F ln x y)) ∧ ∃ q, w' = w.drewN q := by
  have sx : Hid (∀ w, Rep F ex st ln Gb BR BF w → Calls Try.prog 25 #[encG Gb ln x] w fun e w' => e = .returned (.int .i64 (szTo F x (ln x))) ∧ ∃ q, w' = w.drewN q) := fun w R => size_any F ex st ln Gb BR BF w x b R vx
  have sy : Hid (∀ w, Rep F ex st ln Gb BR BF w → Calls Try.prog 25 #[encG Gb ln y] w fun e w' => e = .returned (.int .i64 (szTo F y (ln y))) ∧ ∃ q, w' = w.drewN q) := fun w R => size_any F ex st ln Gb BR BF w y b R vy
  have b1 := b.nonneg x (ln x) vx.le
  have b2 := b.le x (ln x) vx.le
  have b3 := b.nonneg y (ln y) vy.le
  have b4 := b.le y (ln y) vy.le
  have hx := vx.pos
  have hy := vy.pos
  have HR : Hid (Rep F ex st ln Gb BR BF w) := R
  clear b R
  unfold cfOf
  generalize szTo F x (ln x) = sa at *
  generalize szTo F y (ln y) = sb at *
  by_cases he : sa - sb = 0
  · rw [if_pos he]
    have d1 : decide (sa - sb = 0) = true := decide_eq_true he
    go_enter Try.func24, Try.ntmps24
    go_wp2_with fail
    refine (sx.out w HR.out).mono ?_
    rintro e w1 ⟨rfl, q1, rfl⟩
    go_wp2_with fail
    refine (sy.out _ (HR.out.drewN q1)).mono ?_
    rintro e w1 ⟨rfl, hq⟩
    have R2 : Rep F ex st ln Gb BR BF w1 := by obtain ⟨q2, rfl⟩ := hq; exact (HR.out.drewN q1).drewN q2
    have HP : Hid (∀ m, ∃ q, w1.drewN m = w.drewN q) := fun m => by obtain ⟨q2, rfl⟩ := hq; exact ⟨q1 + (q2 + m), by rw [drewN_two, drewN_two]⟩
    have c1 := R2.at0 vx
    have c2 := R2.at0 vy
    have c3 := R2.path x vx.lt
    have c4 := R2.path y vy.lt
    clear hq R2
    have HQ : Hid (∀ n, Calls Try.prog 26 #[.string (F.path x), .string (F.path y)] (w1.drewN n) fun e w'' => e = .returned (.int .i64 (Lib.compareBytes (F.path x).data.toList (F.path y).data.toList)) ∧ ∃ m, w'' = w1.drewN m) := fun n => (compare_any _ _ _).mono fun _ _ ⟨h1, h2⟩ => ⟨h1, n, h2⟩
    go_wp2
    go_quiet ((go_at_call 26; exact HQ.out _))
    go_wp2
    go_ret
    exact ⟨rfl, HP.out nq⟩
  · rw [if_neg he]
    have d1 : decide (sa - sb = 0) = false := decide_eq_false he
    go_enter Try.func24, Try.ntmps24
    go_wp2_with fail
    refine (sx.out w HR.out).mono ?_
    rintro e w1 ⟨rfl, q1, rfl⟩
    go_wp2_with fail
    refine (sy.out _ (HR.out.drewN q1)).mono ?_
    rintro e w1 ⟨rfl, q2, rfl⟩
    go_wp2
    go_ret
    exact ⟨rfl, _, rfl⟩
end Go.Proofs.Qxb6618735a

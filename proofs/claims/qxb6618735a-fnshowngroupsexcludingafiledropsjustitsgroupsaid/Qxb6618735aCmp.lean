/- seat b6618735a: the comparison is a strict weak order; slices.SortStableFunc -/
import Derived.Test.Qxb6618735aGrp
namespace Go.Proofs.Qxb6618735a
open Go.RowKit Go.Lib

theorem cmpB_swap : ∀ a b : List UInt8, compareBytes b a = - compareBytes a b
  | [], [] => by simp [compareBytes]
  | [], _ :: _ => by simp [compareBytes]
  | _ :: _, [] => by simp [compareBytes]
  | a :: us, b :: bs => by
    have ih := cmpB_swap us bs
    simp only [compareBytes]
    by_cases h1 : a < b
    · have h2 : ¬ b < a := fun h => by have := UInt8.lt_trans h1 h; exact absurd this (UInt8.lt_irrefl a)
      simp [h1, h2]
    · by_cases h2 : b < a
      · simp [h1, h2]
      · simp [h1, h2, ih]

theorem cmpB_ntr : ∀ a b c : List UInt8, 0 ≤ compareBytes a b → 0 ≤ compareBytes b c → 0 ≤ compareBytes a c
  | _, _, [], _, _ => by rename_i a b _ _; cases a <;> simp [compareBytes]
  | [], [], _ :: _, _, h => by simp [compareBytes] at h
  | [], _ :: _, _ :: _, h, _ => by simp [compareBytes] at h
  | _ :: _, [], _ :: _, _, h => by simp [compareBytes] at h
  | a :: us, b :: bs, c :: cs, h1, h2 => by
    have ih := cmpB_ntr us bs cs
    simp only [compareBytes] at h1 h2 ⊢
    simp only [UInt8.lt_iff_toNat_lt] at h1 h2 ⊢
    repeat' split at h1
    all_goals repeat' split at h2
    all_goals repeat' split
    all_goals first | omega | (exact ih h1 h2) | (simp at h1) | (simp at h2)

theorem ltc_iff (cf : Nat → Nat → Int) (x y : Nat) : ltc cf x y = true ↔ cf x y < 0 := by simp [ltc]
theorem ltc_iff' (cf : Nat → Nat → Int) (x y : Nat) : ltc cf x y = false ↔ 0 ≤ cf x y := by simp [ltc]

theorem swo_any (F : Fs) (ln : Nat → Nat) : Swo (ltc (cfOf F ln)) := by
  refine ⟨fun x y h => ?_, fun x y z h1 h2 => ?_⟩
  · rw [ltc_iff] at h
    rw [ltc_iff']
    unfold cfOf at h ⊢
    have := cmpB_swap (F.path x).data.toList (F.path y).data.toList
    split at h <;> split <;> omega
  · rw [ltc_iff'] at h1 h2 ⊢
    unfold cfOf at h1 h2 ⊢
    have := cmpB_ntr (F.path x).data.toList (F.path y).data.toList (F.path z).data.toList
    split at h1 <;> split at h2 <;> split
    all_goals first | omega | exact this h1 h2

theorem cmp_ok (F : Fs) (ex : Nat → Bool) (st ln Gb : Nat → Nat) (BR BF blk : Nat) (w0 w1 : World) (b : Bd F) (R : Rep F ex st ln Gb BR BF w0) (h1 : ∀ k, k < w0.heap.size → w1.heap[k]? = w0.heap[k]?) (hb : w0.heap.size ≤ blk) :
    CmpOk Gb ln w1 blk (Vd F st ln) (cfOf F ln) := fun w _ hs x y vx vy =>
  cmp_any F ex st ln Gb BR BF w x y b (R.keep fun k hk => (hs.other k (by omega)).trans (h1 k hk)) vx vy

theorem sortStable_any (Gb ln : Nat → Nat) (w0 w : World) (blk cap : Nat) (V : Nat → Prop) (cf : Nat → Nat → Int) (o : Swo (ltc cf)) (D : List Nat) (N : Nat) (hN : D.length = N) (hd : N ≤ 4096) (hup : D.Pairwise (· < ·)) (hV : ∀ x, x ∈ D → V x)
    (hc : CmpOk Gb ln w0 blk V cf) (h : Srt Gb ln w0 blk D w) :
    Calls Try.prog 23 #[.slice (some ⟨blk, 0, none⟩) N cap, .func (.func 24) #[] #[]] w fun e w' => stPost Gb ln w0 blk cf D e w' := by
  have c := stable_any Gb ln w0 w blk cap V cf o D N hN hd hup hV hc h
  clear hN hup hV hc h
  go_enter Try.func23, Try.ntmps23
  go_wp2_with fail
  refine c.mono ?_
  rintro e w1 ⟨rfl, hz⟩
  have HZ := hide hz
  clear hz c
  go_wp2
  go_end0
  exact ⟨rfl, HZ.out⟩

set_option maxHeartbeats 800000 in
theorem insert0_any (w : World) : Calls Try.prog 31 #[.slice none 0 0, .int .i64 0, .int .i64 0, .func (.func 24) #[] #[]] w fun e w' => e = .returned (.tuple #[]) ∧ w' = w := by
  go_enter Try.func31, Try.ntmps31
  go_wp2
  go_loopw [8] (fun i wr => i = .int .i64 1 ∧ wr = w) (fun _ _ => 0)
  case atStart => exact ⟨rfl, rfl⟩
  case round =>
    obtain ⟨rfl, rfl⟩ := hrel
    go_wp2
    go_end0
    exact ⟨rfl, rfl⟩

set_option maxHeartbeats 800000 in
theorem stable0_any (w : World) : Calls Try.prog 28 #[.slice none 0 0, .int .i64 0, .func (.func 24) #[] #[]] w fun e w' => e = .returned (.tuple #[]) ∧ w' = w := by
  go_enter Try.func28, Try.ntmps28
  go_wp2
  go_loopw [7, 8] (fun i j wr => i = .int .i64 0 ∧ j = .int .i64 20 ∧ wr = w) (fun _ _ _ => 0)
  case atStart => exact ⟨rfl, rfl, rfl⟩
  case round =>
    obtain ⟨rfl, rfl, rfl⟩ := hrel
    go_wp2_with fail
    refine (insert0_any _).mono ?_
    rintro e w1 ⟨rfl, rfl⟩
    go_wp2
    go_loopw [6] (fun i wr => i = .int .i64 20 ∧ wr = w1) (fun _ _ => 0)
    case atStart => exact ⟨rfl, rfl⟩
    case round =>
      obtain ⟨rfl, rfl⟩ := hrel
      go_wp2
      go_end0
      exact ⟨rfl, rfl⟩

theorem sortStable0_any (w : World) : Calls Try.prog 23 #[.slice none 0 0, .func (.func 24) #[] #[]] w fun e w' => e = .returned (.tuple #[]) ∧ w' = w := by
  go_enter Try.func23, Try.ntmps23
  go_wp2_with fail
  refine (stable0_any _).mono ?_
  rintro e w1 ⟨rfl, rfl⟩
  go_wp2
  go_end0
  exact ⟨rfl, rfl⟩
end Go.Proofs.Qxb6618735a

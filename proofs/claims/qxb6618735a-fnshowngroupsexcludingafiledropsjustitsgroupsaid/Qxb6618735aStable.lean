/- seat b6618735a: slices.stableCmpFunc and slices.SortStableFunc -/
import Derived.Test.Qxb6618735aSym
namespace Go.Proofs.Qxb6618735a
open Go.RowKit

theorem chop_two {n : Nat} (hn : 0 < n) : ∀ {Bs : List (List Nat)}, Chop n Bs → 2 * n ≤ Bs.flatten.length → ∃ X Y Bs', Bs = X :: Y :: Bs' ∧ X.length = n ∧ Y.length = n ∧ Chop n Bs'
  | [], _, h => by simp at h; omega
  | [B], hc, h => by simp [Chop] at hc h; omega
  | [X, Y], hc, h => by
    simp [Chop] at hc h
    exact ⟨X, Y, [], rfl, hc.1, by omega, trivial⟩
  | X :: Y :: Z :: Bs, hc, _ => by
    simp only [Chop] at hc
    exact ⟨X, Y, Z :: Bs, rfl, hc.1, hc.2.1, hc.2.2⟩

theorem chop_rest {n : Nat} : ∀ {Bs : List (List Nat)}, Chop n Bs → Bs.flatten.length < 2 * n → (n < Bs.flatten.length → ∃ X Y, Bs = [X, Y] ∧ X.length = n ∧ 0 < Y.length) ∧ (Bs.flatten.length ≤ n → Bs = [] ∨ ∃ B, Bs = [B] ∧ 0 < B.length ∧ B.length ≤ n)
  | [], _, _ => ⟨fun h => by simp at h, fun _ => .inl rfl⟩
  | [B], hc, h => ⟨fun h' => by simp [Chop] at hc h'; omega, fun _ => .inr ⟨B, rfl, hc.1, hc.2⟩⟩
  | [X, Y], hc, h => by
    simp [Chop] at hc h
    exact ⟨fun _ => ⟨X, Y, rfl, hc.1, hc.2.1⟩, fun h' => by simp at h'; omega⟩
  | X :: Y :: Z :: Bs, hc, h => by
    exfalso
    cases Bs with
    | nil => simp [Chop] at hc h; omega
    | cons W Ws => simp [Chop] at hc h; omega

theorem chop_end {n : Nat} {Bs : List (List Nat)} (hc : Chop n Bs) (h : Bs.flatten.length ≤ n) (hn : 0 < n) : Bs = [] ∨ ∃ B, Bs = [B] :=
  match (chop_rest hc (by omega)).2 h with
  | .inl e => .inl e
  | .inr ⟨B, e, _⟩ => .inr ⟨B, e⟩

/-- the first loop's state: sorted blocks of twenty, then the rest as it was -/
structure Fst (lt : Nat → Nat → Bool) (D : List Nat) (Cs : List (List Nat)) (R : List Nat) : Prop where
  len : ∀ C, C ∈ Cs → C.length = 20
  sd : ∀ C, C ∈ Cs → Sd lt C
  cross : Cs.Pairwise (fun A B => ∀ x, x ∈ A → ∀ y, y ∈ B → x < y)
  rest : ∀ C, C ∈ Cs → ∀ x, x ∈ C → ∀ y, y ∈ R → x < y
  up : R.Pairwise (· < ·)
  perm : (Cs.flatten ++ R).Perm D

theorem Fst.next {lt : Nat → Nat → Bool} {D : List Nat} {Cs : List (List Nat)} {R Z : List Nat} (h : Fst lt D Cs R) (hl : 20 ≤ R.length) (hz : Z.Perm (R.take 20)) (hs : Sd lt Z) : Fst lt D (Cs ++ [Z]) (R.drop 20) := by
  obtain ⟨h1, h2, h3, h4, h5, h6⟩ := h
  have hu : (R.take 20 ++ R.drop 20).Pairwise (· < ·) := by rw [List.take_append_drop]; exact h5
  obtain ⟨u1, u2, u3⟩ := List.pairwise_append.1 hu
  refine ⟨fun C hC => ?_, fun C hC => ?_, List.pairwise_append.2 ⟨h3, List.pairwise_singleton _ _, fun A hA B hB x hx y hy => ?_⟩, fun C hC x hx y hy => ?_, u2, ?_⟩
  · simp at hC
    rcases hC with hC | rfl
    · exact h1 C hC
    · have := hz.length_eq; simp at this; omega
  · simp at hC
    rcases hC with hC | rfl
    · exact h2 C hC
    · exact hs
  · simp at hB; subst hB
    exact h4 A hA x hx y (List.mem_of_mem_take (hz.subset hy))
  · simp at hC
    rcases hC with hC | rfl
    · exact h4 C hC x hx y (List.mem_of_mem_drop hy)
    · exact u3 x (hz.subset hx) y hy
  · refine List.Perm.trans ?_ h6
    rw [List.flatten_append, List.append_assoc]
    refine List.Perm.append_left _ ?_
    have := hz.append_right (R.drop 20)
    rw [List.take_append_drop] at this
    simpa using this

theorem Fst.last {lt : Nat → Nat → Bool} {D : List Nat} {Cs : List (List Nat)} {R Z : List Nat} (h : Fst lt D Cs R) (hl : R.length < 20) (hz : Z.Perm R) (hs : Sd lt Z) : ∃ Bs : List (List Nat), Bs.flatten = Cs.flatten ++ Z ∧ Chop 20 Bs ∧ Blk lt D Bs := by
  obtain ⟨h1, h2, h3, h4, h5, h6⟩ := h
  by_cases e : Z = []
  · subst e
    have : R = [] := List.Perm.eq_nil hz.symm
    subst this
    exact ⟨Cs, by simp, chop_all (by omega) h1, h2, h3, by simpa using h6⟩
  · refine ⟨Cs ++ [Z], by simp, chop_snoc h1 (List.length_pos_iff.2 e) (by have := hz.length_eq; omega), fun C hC => ?_, List.pairwise_append.2 ⟨h3, List.pairwise_singleton _ _, fun A hA B hB x hx y hy => ?_⟩, ?_⟩
    · simp at hC
      rcases hC with hC | rfl
      · exact h2 C hC
      · exact hs
    · simp at hB; subst hB
      exact h4 A hA x hx y (hz.subset hy)
    · refine List.Perm.trans ?_ h6
      rw [List.flatten_append]
      refine List.Perm.append_left _ ?_
      simpa using hz

def stPost (Gb ln : Nat → Nat) (w0 : World) (blk : Nat) (cf : Nat → Nat → Int) (D : List Nat) (e : Ending) (w' : World) : Prop :=
  e = .returned (.tuple #[]) ∧ ∃ Z : List Nat, Z.Perm D ∧ Sd (ltc cf) Z ∧ Srt Gb ln w0 blk Z w'

set_option maxHeartbeats 3200000 in
set_option maxRecDepth 100000 in
theorem stable_any (Gb ln : Nat → Nat) (w0 w : World) (blk cap : Nat) (V : Nat → Prop) (cf : Nat → Nat → Int) (o : Swo (ltc cf)) (D : List Nat) (N : Nat) (hN : D.length = N) (hd : N ≤ 4096) (hup : D.Pairwise (· < ·)) (hV : ∀ x, x ∈ D → V x)
    (hc : CmpOk Gb ln w0 blk V cf) (h : Srt Gb ln w0 blk D w) :
    Calls Try.prog 28 #[.slice (some ⟨blk, 0, none⟩) N cap, .int .i64 N, .func (.func 24) #[] #[]] w fun e w' => stPost Gb ln w0 blk cf D e w' := by
  have HN : Hid (D.length = N) := hN
  have HV : Hid (∀ x, x ∈ D → V x) := hV
  have HC : Hid (CmpOk Gb ln w0 blk V cf) := hc
  have HSY : Hid (∀ k, SymOk Gb ln w0 blk cap V cf N k) := sym_any Gb ln w0 blk cap V cf o N hd hc
  have H0 : Hid (Fst (ltc cf) D [] D ∧ Srt Gb ln w0 blk D w) := ⟨⟨fun C hC => by simp at hC, fun C hC => by simp at hC, List.Pairwise.nil, fun C hC => by simp at hC, hup, by simp⟩, h⟩
  clear hN hup hV hc h
  go_enter Try.func28, Try.ntmps28
  go_wp2
  go_loopw [7, 8] (fun x y wr => ∃ A : Nat, A ≤ N ∧ x = .int .i64 A ∧ y = .int .i64 ((A : Int) + 20) ∧ Hid (∃ Cs R, Fst (ltc cf) D Cs R ∧ Cs.flatten.length = A ∧ Srt Gb ln w0 blk (Cs.flatten ++ R) wr)) (fun x _ _ => N - (intOf x).toNat)
  case atStart => exact ⟨0, by omega, rfl, rfl, [], D, H0.out.1, rfl, H0.out.2⟩
  case round =>
    obtain ⟨A, hAN, rfl, rfl, HF⟩ := hrel
    obtain ⟨Cs, R, f1, f2, f3⟩ := HF.out
    have hl : (Cs.flatten ++ R).length = N := by have h1 := f1.perm.length_eq; have := HN.out; omega
    have hRl : A + R.length = N := by rw [List.length_append] at hl; omega
    have hRD : ∀ x, x ∈ R → x ∈ D := fun x hx => f1.perm.subset (by simp [hx])
    by_cases hlt : A + 20 ≤ N
    · have c := insert_any Gb ln w0 wr blk cap V cf o Cs.flatten (R.take 20) (R.drop 20) N A (A + 20) (by rw [List.append_assoc, List.take_append_drop]; exact hl) hd f2 (by rw [f2]; simp; omega)
        ((show (R.take 20 ++ R.drop 20).Pairwise (· < ·) by rw [List.take_append_drop]; exact f1.up) |> fun h => (List.pairwise_append.1 h).1) (fun x hx => HV.out x (hRD x (List.mem_of_mem_take hx))) HC.out (by rw [List.append_assoc, List.take_append_drop]; exact f3)
      rw [show ((A + 20 : Nat) : Int) = (A : Int) + 20 by omega] at c
      have HNX : Hid (∀ w', (∃ Z : List Nat, Z.Perm (R.take 20) ∧ Sd (ltc cf) Z ∧ Srt Gb ln w0 blk (Cs.flatten ++ Z ++ R.drop 20) w') → ∃ Cs R, Fst (ltc cf) D Cs R ∧ Cs.flatten.length = A + 20 ∧ Srt Gb ln w0 blk (Cs.flatten ++ R) w') := fun w' ⟨Z, z1, z2, z3⟩ =>
        ⟨Cs ++ [Z], R.drop 20, f1.next (by omega) z1 z2, by have := z1.length_eq; rw [List.flatten_append, List.length_append, f2]; simp at this ⊢; omega, by simpa using z3⟩
      clear f1 f2 f3 hl hRl hRD HF
      go_wp2_with fail
      refine c.mono ?_
      rintro e w1 ⟨rfl, hz⟩
      have HZ := hide (HNX.out w1 hz)
      clear hz c HNX
      go_wp2
      go_roundw
      case rel => exact ⟨A + 20, by omega, by go_num, by go_num, HZ.out⟩
      case measure => simp [intOf]; omega
    · have c := insert_any Gb ln w0 wr blk cap V cf o Cs.flatten R [] N A N (by simpa using hl) hd f2 (by omega) f1.up (fun x hx => HV.out x (hRD x hx)) HC.out (by simpa using f3)
      have HNX : Hid (∀ w', (∃ Z : List Nat, Z.Perm R ∧ Sd (ltc cf) Z ∧ Srt Gb ln w0 blk (Cs.flatten ++ Z ++ []) w') → ∃ Bs : List (List Nat), Chop 20 Bs ∧ Blk (ltc cf) D Bs ∧ Srt Gb ln w0 blk Bs.flatten w') := fun w' ⟨Z, z1, z2, z3⟩ => by
        obtain ⟨Bs, b1, b2, b3⟩ := f1.last (by omega) z1 z2
        exact ⟨Bs, b2, b3, by rw [b1]; simpa using z3⟩
      clear f1 f2 f3 hl hRl hRD HF
      have dA : decide ((A : Int) + 20 ≤ (N : Int)) = false := decide_eq_false (by omega)
      go_wp2_with fail
      refine c.mono ?_
      rintro e w1 ⟨rfl, hz⟩
      have HZ := hide (HNX.out w1 hz)
      clear hz c HNX
      go_wp2
      clear hlt
      go_loopw [6] (fun x wr => ∃ bs : Nat, 0 < bs ∧ bs ≤ 8192 ∧ x = .int .i64 bs ∧ Hid (∃ Bs : List (List Nat), Chop bs Bs ∧ Blk (ltc cf) D Bs ∧ Srt Gb ln w0 blk Bs.flatten wr)) (fun x _ => N - (intOf x).toNat)
      case atStart => exact ⟨20, by omega, by omega, rfl, HZ.out⟩
      case round =>
        obtain ⟨bs, hb0, hb1, rfl, HB⟩ := hrel
        by_cases hbn : bs < N
        · have HI0 : Hid (∃ Cs Bs : List (List Nat), (∀ C, C ∈ Cs → C.length = 2 * bs) ∧ Cs.flatten.length = 0 ∧ Chop bs Bs ∧ Blk (ltc cf) D (Cs ++ Bs) ∧ Srt Gb ln w0 blk (Cs ++ Bs).flatten wr) := by
            obtain ⟨Bs, b1, b2, b3⟩ := HB.out
            exact ⟨[], Bs, fun C hC => by simp at hC, rfl, b1, b2, b3⟩
          have bsN : bs ≤ 4096 := by omega
          clear HB HZ
          go_wp2
          go_loopw [7, 8] (fun x y wr => ∃ E : Nat, E ≤ N ∧ x = .int .i64 E ∧ y = .int .i64 ((E : Int) + 2 * (bs : Int)) ∧ Hid (∃ Cs Bs : List (List Nat), (∀ C, C ∈ Cs → C.length = 2 * bs) ∧ Cs.flatten.length = E ∧ Chop bs Bs ∧ Blk (ltc cf) D (Cs ++ Bs) ∧ Srt Gb ln w0 blk (Cs ++ Bs).flatten wr)) (fun x _ _ => N - (intOf x).toNat)
          case atStart => exact ⟨0, by omega, rfl, by go_num, HI0.out⟩
          case round =>
            obtain ⟨E, hEN, rfl, rfl, HJ⟩ := hrel
            obtain ⟨Cs, Bs, j1, j2, j3, j4, j5⟩ := HJ.out
            have hl : E + Bs.flatten.length = N := by have h1 := j4.perm.length_eq; have := HN.out; rw [List.flatten_append, List.length_append] at h1; omega
            by_cases hE : E + 2 * bs ≤ N
            · obtain ⟨X, Y, Bs', rfl, x1, y1, k3⟩ := chop_two hb0 j3 (by omega)
              have c := HSY.out (X.length + Y.length) Cs.flatten X Y Bs'.flatten wr E (E + bs) (E + 2 * bs) (Nat.le_refl _) (by have h := hl; rw [List.flatten_cons, List.flatten_cons, List.length_append, List.length_append] at h; rw [List.length_append, List.length_append, List.length_append, j2]; omega) j2 (by omega) (by omega) (j4.pre HV.out (by omega) (by omega)) (by simpa using j5)
              rw [show ((E + bs : Nat) : Int) = (E : Int) + (bs : Int) by omega, show ((E + 2 * bs : Nat) : Int) = (E : Int) + 2 * (bs : Int) by omega] at c
              have HNX : Hid (∀ w', (∃ Z : List Nat, Z.Perm (X ++ Y) ∧ Sd (ltc cf) Z ∧ Srt Gb ln w0 blk (Cs.flatten ++ Z ++ Bs'.flatten) w') → ∃ Cs Bs : List (List Nat), (∀ C, C ∈ Cs → C.length = 2 * bs) ∧ Cs.flatten.length = E + 2 * bs ∧ Chop bs Bs ∧ Blk (ltc cf) D (Cs ++ Bs) ∧ Srt Gb ln w0 blk (Cs ++ Bs).flatten w') := fun w' ⟨Z, z1, z2, z3⟩ => by
                have hz := z1.length_eq
                simp at hz
                refine ⟨Cs ++ [Z], Bs', fun C hC => ?_, by rw [List.flatten_append, List.length_append, j2]; simp; omega, k3, by have := j4.merge z1 z2; simpa using this, by simpa using z3⟩
                simp at hC
                rcases hC with hC | rfl
                · exact j1 C hC
                · omega
              clear j1 j2 j3 j4 j5 k3 HJ x1 y1 hl
              go_wp2_with fail
              refine c.mono ?_
              rintro e w2 ⟨rfl, hz⟩
              have HZ2 := hide (HNX.out w2 hz)
              clear hz c HNX
              go_wp2
              go_roundw
              case rel => exact ⟨E + 2 * bs, by omega, by go_num, by go_num, HZ2.out⟩
              case measure => simp [intOf]; omega
            · have dE : decide ((E : Int) + 2 * (bs : Int) ≤ (N : Int)) = false := decide_eq_false (by omega)
              obtain ⟨r1, r2⟩ := chop_rest j3 (by omega)
              by_cases hE2 : E + bs < N
              · obtain ⟨X, Y, rfl, x1, y1⟩ := r1 (by omega)
                have hl' : E + (X.length + Y.length) = N := by simpa using hl
                have c := HSY.out (X.length + Y.length) Cs.flatten X Y [] wr E (E + bs) N (Nat.le_refl _) (by rw [List.append_nil, List.length_append, List.length_append, j2]; omega) j2 (by omega) (by omega) (j4.pre HV.out (by omega) y1) (by simpa using j5)
                rw [show ((E + bs : Nat) : Int) = (E : Int) + (bs : Int) by omega] at c
                have HNX : Hid (∀ w', (∃ Z : List Nat, Z.Perm (X ++ Y) ∧ Sd (ltc cf) Z ∧ Srt Gb ln w0 blk (Cs.flatten ++ Z ++ []) w') → ∃ Bs : List (List Nat), Chop (bs * 2) Bs ∧ Blk (ltc cf) D Bs ∧ Srt Gb ln w0 blk Bs.flatten w') := fun w' ⟨Z, z1, z2, z3⟩ => by
                  have hz := z1.length_eq
                  simp at hz
                  exact ⟨Cs ++ [Z], chop_snoc (fun C hC => by have := j1 C hC; omega) (by omega) (by omega), by have := j4.merge z1 z2; simpa using this, by simpa using z3⟩
                clear j1 j2 j3 j4 j5 HJ x1 y1 hl r1 r2
                go_wp2_with fail
                refine c.mono ?_
                rintro e w2 ⟨rfl, hz⟩
                have HZ2 := hide (HNX.out w2 hz)
                clear hz c HNX
                go_wp2
                go_roundw
                case rel => exact ⟨bs * 2, by omega, by omega, by go_num, HZ2.out⟩
                case measure => simp [intOf]; omega
              · have dE2 : decide ((E : Int) + (bs : Int) < (N : Int)) = false := decide_eq_false (by omega)
                have HZ2 : Hid (∃ Bs : List (List Nat), Chop (bs * 2) Bs ∧ Blk (ltc cf) D Bs ∧ Srt Gb ln w0 blk Bs.flatten wr) := by
                  refine ⟨Cs ++ Bs, ?_, j4, j5⟩
                  rcases r2 (by omega) with rfl | ⟨B, rfl, p1, p2⟩
                  · rw [List.append_nil]; exact chop_all (by omega) (fun C hC => by have := j1 C hC; omega)
                  · exact chop_snoc (fun C hC => by have := j1 C hC; omega) p1 (by omega)
                clear j1 j2 j3 j4 j5 HJ hl r1 r2
                go_wp2
                go_roundw
                case rel => exact ⟨bs * 2, by omega, by omega, by go_num, HZ2.out⟩
                case measure => simp [intOf]; omega
        · have HP : Hid (∃ Z : List Nat, Z.Perm D ∧ Sd (ltc cf) Z ∧ Srt Gb ln w0 blk Z wr) := by
            obtain ⟨Bs, b1, b2, b3⟩ := HB.out
            have hl := b2.perm.length_eq
            have hn := HN.out
            rcases chop_end b1 (by omega) hb0 with rfl | ⟨B, rfl⟩
            · exact ⟨[], by simpa using b2.perm, List.Pairwise.nil, by simpa using b3⟩
            · exact ⟨B, by simpa using b2.perm, b2.sd B (by simp), by simpa using b3⟩
          clear HB HZ
          go_wp2
          go_end0
          exact ⟨rfl, HP.out⟩
end Go.Proofs.Qxb6618735a

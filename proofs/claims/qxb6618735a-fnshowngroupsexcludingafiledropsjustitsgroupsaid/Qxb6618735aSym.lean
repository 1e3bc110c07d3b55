/- seat b6618735a: slices.symMergeCmpFunc, whole -/
import Derived.Test.Qxb6618735aSymLo
import Derived.Test.Qxb6618735aSymHi
namespace Go.Proofs.Qxb6618735a
open Go.RowKit

theorem sym_any (Gb ln : Nat → Nat) (w0 : World) (blk cap : Nat) (V : Nat → Prop) (cf : Nat → Nat → Int) (o : Swo (ltc cf)) (N : Nat) (hd : N ≤ 4096) (hc : CmpOk Gb ln w0 blk V cf) : ∀ k, SymOk Gb ln w0 blk cap V cf N k
  | 0 => fun P X Y S w a m b hk hN ha hm hb hpre h => by have := hpre.x0; omega
  | k + 1 => fun P X Y S w a m b hk hN ha hm hb hpre h => by
    have ih := sym_any Gb ln w0 blk cap V cf o N hd hc k
    have hx0 := hpre.x0
    have hy0 := hpre.y0
    by_cases e1 : X.length = 1
    · obtain ⟨x, rfl⟩ := List.length_eq_one_iff.1 e1
      exact sym_left Gb ln w0 w blk cap V cf o P Y S x N a m b hN hd ha (by simpa using hm) hb hy0 hpre.sy (fun y hy => hpre.xy x (by simp) y hy) (hpre.vx x (by simp)) hpre.vy hc h
    · by_cases e2 : Y.length = 1
      · obtain ⟨y, rfl⟩ := List.length_eq_one_iff.1 e2
        exact sym_right Gb ln w0 w blk cap V cf o P X S y N a m b hN hd ha hm (by simpa using hb) (by omega) hpre.sx (fun x hx => hpre.xy x hx y (by simp)) (hpre.vy y (by simp)) hpre.vx hc h
      · by_cases e3 : 2 * m ≤ a + b
        · exact sym_lo Gb ln w0 w blk cap V cf o P X Y S N a m b k hd ih hk hN ha hm hb (by omega) (by omega) e3 hpre hc h
        · exact sym_hi Gb ln w0 w blk cap V cf o P X Y S N a m b k hd ih hk hN ha hm hb (by omega) (by omega) (by omega) hpre hc h

/-! ### the blocks of the stable sort -/
/-- sorted blocks, each wholly of earlier starts than the next; all of them together are D -/
structure Blk (lt : Nat → Nat → Bool) (D : List Nat) (Bs : List (List Nat)) : Prop where
  sd : ∀ B, B ∈ Bs → Sd lt B
  cross : Bs.Pairwise (fun A B => ∀ x, x ∈ A → ∀ y, y ∈ B → x < y)
  perm : Bs.flatten.Perm D

/-- each block but the last is of length n, the last of one to n -/
def Chop (n : Nat) : List (List Nat) → Prop
  | [] => True
  | [B] => 0 < B.length ∧ B.length ≤ n
  | B :: C :: Bs => B.length = n ∧ Chop n (C :: Bs)

theorem flat_len {n : Nat} {Cs : List (List Nat)} (h : ∀ C, C ∈ Cs → C.length = n) : Cs.flatten.length = n * Cs.length := by
  induction Cs with
  | nil => simp
  | cons C Cs ih =>
    rw [List.flatten_cons, List.length_append, ih (fun D hD => h D (by simp [hD])), h C (by simp), List.length_cons, Nat.mul_add]; omega

theorem chop_snoc {n : Nat} {Cs : List (List Nat)} {Z : List Nat} (h : ∀ C, C ∈ Cs → C.length = n) (h0 : 0 < Z.length) (h1 : Z.length ≤ n) : Chop n (Cs ++ [Z]) := by
  induction Cs with
  | nil => exact ⟨h0, h1⟩
  | cons C Cs ih =>
    have := ih (fun D hD => h D (by simp [hD]))
    cases Cs with
    | nil => exact ⟨h C (by simp), this⟩
    | cons C' Cs' => exact ⟨h C (by simp), this⟩
theorem chop_all {n : Nat} {Cs : List (List Nat)} (hn : 0 < n) (h : ∀ C, C ∈ Cs → C.length = n) : Chop n Cs := by
  induction Cs with
  | nil => trivial
  | cons C Cs ih =>
    have := ih (fun D hD => h D (by simp [hD]))
    cases Cs with
    | nil => have := h C (by simp); exact ⟨by omega, by omega⟩
    | cons C' Cs' => exact ⟨h C (by simp), this⟩

theorem Blk.merge {lt : Nat → Nat → Bool} {D X Y Z : List Nat} {Cs Bs : List (List Nat)} (h : Blk lt D (Cs ++ X :: Y :: Bs)) (hz : Z.Perm (X ++ Y)) (hs : Sd lt Z) : Blk lt D (Cs ++ Z :: Bs) := by
  obtain ⟨h1, h2, h3⟩ := h
  refine ⟨fun B hB => ?_, ?_, ?_⟩
  · simp at hB
    rcases hB with hB | rfl | hB
    · exact h1 B (by simp [hB])
    · exact hs
    · exact h1 B (by simp [hB])
  · rw [List.pairwise_append] at h2 ⊢
    obtain ⟨p1, p2, p3⟩ := h2
    rw [List.pairwise_cons, List.pairwise_cons] at p2
    obtain ⟨q1, q2, q3⟩ := p2
    refine ⟨p1, List.pairwise_cons.2 ⟨fun B hB x hx y hy => ?_, q3⟩, fun A hA B hB x hx y hy => ?_⟩
    · have := hz.subset hx
      rw [List.mem_append] at this
      rcases this with hx' | hx'
      · exact q1 B (by simp [hB]) x hx' y hy
      · exact q2 B hB x hx' y hy
    · simp at hB
      rcases hB with rfl | hB
      · have := hz.subset hy
        rw [List.mem_append] at this
        rcases this with hy' | hy'
        · exact p3 A hA X (by simp) x hx y hy'
        · exact p3 A hA Y (by simp) x hx y hy'
      · exact p3 A hA B (by simp [hB]) x hx y hy
  · refine List.Perm.trans ?_ h3
    rw [List.flatten_append, List.flatten_append, List.flatten_cons, List.flatten_cons, List.flatten_cons, ← List.append_assoc X]
    exact (hz.append_right _).append_left _

theorem Blk.pre {V : Nat → Prop} {cf : Nat → Nat → Int} {D X Y : List Nat} {Cs Bs : List (List Nat)} (h : Blk (ltc cf) D (Cs ++ X :: Y :: Bs)) (hV : ∀ x, x ∈ D → V x) (hx : 0 < X.length) (hy : 0 < Y.length) : SymPre V cf X Y := by
  obtain ⟨h1, h2, h3⟩ := h
  rw [List.pairwise_append] at h2
  obtain ⟨_, p2, _⟩ := h2
  rw [List.pairwise_cons] at p2
  exact ⟨hx, hy, h1 X (by simp), h1 Y (by simp), p2.1 Y (by simp), fun x hx => hV x (h3.subset (by simp [hx])), fun y hy => hV y (h3.subset (by simp [hy]))⟩
end Go.Proofs.Qxb6618735a

/- seat b6618735a: slices.symMergeCmpFunc -/
import Derived.Test.Qxb6618735aSymOne
import Derived.Test.Qxb6618735aRotate
namespace Go.Proofs.Qxb6618735a
open Go.RowKit

/-- where the search stands: the element ahead of s lies before its mate, the one at r behind it -/
def Sc (lt : Nat → Nat → Bool) (X Y : List Nat) (a m n lo hi s r : Nat) : Prop :=
  lo ≤ s ∧ s ≤ r ∧ r ≤ hi ∧ (s = lo ∨ Tlt lt (X.getD (s - 1 - a) 0) (Y.getD (n - s - m) 0)) ∧ (r = hi ∨ Tlt lt (Y.getD (n - 1 - r - m) 0) (X.getD (r - a) 0))

theorem le_get {lt : Nat → Nat → Bool} (o : Swo lt) {l : List Nat} (h : Sd lt l) {i j z : Nat} (hij : i ≤ j) (hj : j < l.length) (ht : Tlt lt (l.getD j 0) z) : Tlt lt (l.getD i 0) z := by
  by_cases e : i = j
  · rw [e]; exact ht
  · exact (h.get i j (by omega) hj).trans o ht
theorem get_le {lt : Nat → Nat → Bool} (o : Swo lt) {l : List Nat} (h : Sd lt l) {i j z : Nat} (hij : i ≤ j) (hj : j < l.length) (ht : Tlt lt z (l.getD i 0)) : Tlt lt z (l.getD j 0) := by
  by_cases e : i = j
  · rw [← e]; exact ht
  · exact ht.trans o (h.get i j (by omega) hj)

/-- what the search has found: all that comes to the left half lies before all that comes to the right half -/
theorem Sc.cross {lt : Nat → Nat → Bool} (o : Swo lt) {X Y : List Nat} {a m b mid lo hi s : Nat} (hX : Sd lt X) (hY : Sd lt Y) (hm : a + X.length = m) (hb : m + Y.length = b) (hmid : a + b = 2 * mid ∨ a + b = 2 * mid + 1)
    (hlh : (lo = a ∧ hi = m ∧ m ≤ mid) ∨ (lo + b = mid + m ∧ hi = mid ∧ mid < m)) (h : Sc lt X Y a m (mid + m) lo hi s s) :
    ∀ u, u ∈ X.take (s - a) ++ Y.take (mid - s) → ∀ v, v ∈ X.drop (s - a) ++ Y.drop (mid - s) → Tlt lt u v := by
  obtain ⟨h1, _, h3, h4, h5⟩ := h
  have hXs : Sd lt (X.take (s - a) ++ X.drop (s - a)) := by rw [List.take_append_drop]; exact hX
  have hYs : Sd lt (Y.take (mid - s) ++ Y.drop (mid - s)) := by rw [List.take_append_drop]; exact hY
  intro u hu v hv
  rw [List.mem_append] at hu hv
  rcases hu with hu | hu <;> rcases hv with hv | hv
  · exact hXs.cross u hu v hv
  · obtain ⟨i, i1, i2, rfl⟩ := mem_take_getD hu
    obtain ⟨j, j1, j2, rfl⟩ := mem_drop_getD hv
    rcases h4 with h4 | h4
    · exfalso; omega
    · refine le_get o hX (j := s - 1 - a) (by omega) (by omega) ?_
      exact get_le o hY (i := mid + m - s - m) (by omega) j2 h4
  · obtain ⟨i, i1, i2, rfl⟩ := mem_take_getD hu
    obtain ⟨j, j1, j2, rfl⟩ := mem_drop_getD hv
    rcases h5 with h5 | h5
    · exfalso; omega
    · refine le_get o hY (j := mid + m - 1 - s - m) (by omega) (by omega) ?_
      exact get_le o hX (i := s - a) (by omega) j2 h5
  · exact hYs.cross u hu v hv

/-- what is asked of the merge's arguments -/
structure SymPre (V : Nat → Prop) (cf : Nat → Nat → Int) (X Y : List Nat) : Prop where
  x0 : 0 < X.length
  y0 : 0 < Y.length
  sx : Sd (ltc cf) X
  sy : Sd (ltc cf) Y
  xy : ∀ x, x ∈ X → ∀ y, y ∈ Y → x < y
  vx : ∀ x, x ∈ X → V x
  vy : ∀ y, y ∈ Y → V y

def SymOk (Gb ln : Nat → Nat) (w0 : World) (blk cap : Nat) (V : Nat → Prop) (cf : Nat → Nat → Int) (N k : Nat) : Prop :=
  ∀ (P X Y S : List Nat) (w : World) (a m b : Nat), X.length + Y.length ≤ k → (P ++ X ++ Y ++ S).length = N → P.length = a → a + X.length = m → m + Y.length = b → SymPre V cf X Y → Srt Gb ln w0 blk (P ++ X ++ Y ++ S) w →
    Calls Try.prog 32 #[.slice (some ⟨blk, 0, none⟩) N cap, .int .i64 a, .int .i64 m, .int .i64 b, .func (.func 24) #[] #[]] w fun e w' => symPost Gb ln w0 blk cf P X Y S e w'

theorem SymPre.take {V : Nat → Prop} {cf : Nat → Nat → Int} {X Y : List Nat} (h : SymPre V cf X Y) (i j : Nat) (hi : 0 < i) (hj : 0 < j) : SymPre V cf (X.take i) (Y.take j) :=
  ⟨by have := h.x0; simp; omega, by have := h.y0; simp; omega, (show Sd (ltc cf) (X.take i ++ X.drop i) by rw [List.take_append_drop]; exact h.sx).left, (show Sd (ltc cf) (Y.take j ++ Y.drop j) by rw [List.take_append_drop]; exact h.sy).left,
    fun x hx y hy => h.xy x (List.mem_of_mem_take hx) y (List.mem_of_mem_take hy), fun x hx => h.vx x (List.mem_of_mem_take hx), fun y hy => h.vy y (List.mem_of_mem_take hy)⟩
theorem SymPre.drop {V : Nat → Prop} {cf : Nat → Nat → Int} {X Y : List Nat} (h : SymPre V cf X Y) (i j : Nat) (hi : i < X.length) (hj : j < Y.length) : SymPre V cf (X.drop i) (Y.drop j) :=
  ⟨by simp; omega, by simp; omega, (show Sd (ltc cf) (X.take i ++ X.drop i) by rw [List.take_append_drop]; exact h.sx).right, (show Sd (ltc cf) (Y.take j ++ Y.drop j) by rw [List.take_append_drop]; exact h.sy).right,
    fun x hx y hy => h.xy x (List.mem_of_mem_drop hx) y (List.mem_of_mem_drop hy), fun x hx => h.vx x (List.mem_of_mem_drop hx), fun y hy => h.vy y (List.mem_of_mem_drop hy)⟩

theorem sd_one {lt : Nat → Nat → Bool} {A B : List Nat} (hA : Sd lt A) (hB : Sd lt B) (h : A = [] ∨ B = []) : Sd lt (A ++ B) := by
  rcases h with rfl | rfl <;> simpa

theorem perm_four (X Y : List Nat) (i j : Nat) : ((X.take i ++ Y.take j) ++ (X.drop i ++ Y.drop j)).Perm (X ++ Y) := by
  have h : (Y.take j ++ X.drop i).Perm (X.drop i ++ Y.take j) := List.perm_append_comm
  have h2 := (h.append_left (X.take i)).append_right (Y.drop j)
  have e1 : X.take i ++ (Y.take j ++ X.drop i) ++ Y.drop j = (X.take i ++ Y.take j) ++ (X.drop i ++ Y.drop j) := by simp
  have e2 : X.take i ++ (X.drop i ++ Y.take j) ++ Y.drop j = X ++ Y := by simp [← List.append_assoc]; simp [List.append_assoc]
  rw [e1, e2] at h2
  exact h2

theorem rot_eq {P X Y S : List Nat} {i j : Nat} : P ++ X.take i ++ X.drop i ++ Y.take j ++ (Y.drop j ++ S) = P ++ X ++ Y ++ S := by
  simp [← List.append_assoc]; simp [List.append_assoc]
theorem norot_eq {P X Y S : List Nat} {i j : Nat} (h : X.length ≤ i ∨ j = 0) : P ++ (X.take i ++ Y.take j) ++ (X.drop i ++ Y.drop j) ++ S = P ++ X ++ Y ++ S := by
  rcases h with h | rfl
  · rw [List.take_of_length_le h, List.drop_eq_nil_of_le h]; simp [← List.append_assoc]; simp [List.append_assoc]
  · simp [← List.append_assoc]; simp [List.append_assoc]
theorem half_left {V : Nat → Prop} {cf : Nat → Nat → Int} {X Y : List Nat} (h : SymPre V cf X Y) (i j : Nat) (h0 : i = 0 ∨ j = 0) : (X.take i ++ Y.take j).Perm (X.take i ++ Y.take j) ∧ Sd (ltc cf) (X.take i ++ Y.take j) :=
  ⟨List.Perm.refl _, sd_one (show Sd (ltc cf) (X.take i ++ X.drop i) by rw [List.take_append_drop]; exact h.sx).left (show Sd (ltc cf) (Y.take j ++ Y.drop j) by rw [List.take_append_drop]; exact h.sy).left (by rcases h0 with rfl | rfl <;> simp)⟩
theorem half_right {V : Nat → Prop} {cf : Nat → Nat → Int} {X Y : List Nat} (h : SymPre V cf X Y) (i j : Nat) (h0 : X.length ≤ i ∨ Y.length ≤ j) : (X.drop i ++ Y.drop j).Perm (X.drop i ++ Y.drop j) ∧ Sd (ltc cf) (X.drop i ++ Y.drop j) :=
  ⟨List.Perm.refl _, sd_one (show Sd (ltc cf) (X.take i ++ X.drop i) by rw [List.take_append_drop]; exact h.sx).right (show Sd (ltc cf) (Y.take j ++ Y.drop j) by rw [List.take_append_drop]; exact h.sy).right (by rcases h0 with h | h <;> simp [h])⟩
theorem sym_fin {Gb ln : Nat → Nat} {w0 w : World} {blk : Nat} {cf : Nat → Nat → Int} {P X Y S Z1 Z2 : List Nat} {i j : Nat} (hx : ∀ u, u ∈ X.take i ++ Y.take j → ∀ v, v ∈ X.drop i ++ Y.drop j → Tlt (ltc cf) u v)
    (h1 : Z1.Perm (X.take i ++ Y.take j) ∧ Sd (ltc cf) Z1) (h2 : Z2.Perm (X.drop i ++ Y.drop j) ∧ Sd (ltc cf) Z2) (h : Srt Gb ln w0 blk (P ++ Z1 ++ Z2 ++ S) w) :
    ∃ Z : List Nat, Z.Perm (X ++ Y) ∧ Sd (ltc cf) Z ∧ Srt Gb ln w0 blk (P ++ Z ++ S) w :=
  ⟨Z1 ++ Z2, (h1.1.append h2.1).trans (perm_four X Y i j), Sd.append h1.2 h2.2 fun u hu v hv => hx u (h1.1.subset hu) v (h2.1.subset hv), by simpa using h⟩

end Go.Proofs.Qxb6618735a

/- seat b6618735a: the runs that NewGroup opens; blocks as functions -/
import Derived.Test.Qxb6618735aShown
namespace Go.Proofs.Qxb6618735a
open Go.RowKit

/-- the start of file i's group -/
def stOf (ng : Nat → Bool) : Nat → Nat
  | 0 => 0
  | i + 1 => if ng (i + 1) then i + 1 else stOf ng i

def enF (n : Nat) (ng : Nat → Bool) : Nat → Nat → Nat
  | 0, j => j
  | k + 1, j => if j < n ∧ ng j = false then enF n ng k (j + 1) else j

/-- the end of the group that starts at s -/
def enOf (n : Nat) (ng : Nat → Bool) (s : Nat) : Nat := enF n ng n (s + 1)
/-- its length -/
def lnOf (n : Nat) (ng : Nat → Bool) (s : Nat) : Nat := enOf n ng s - s

/-- s starts a group -/
def Opens (ng : Nat → Bool) (s : Nat) : Prop := s = 0 ∨ ng s = true

/-- j ends the group that starts at s -/
structure Ends (n : Nat) (ng : Nat → Bool) (s j : Nat) : Prop where
  lt : s < j
  le : j ≤ n
  inn : ∀ k, s < k → k < j → ng k = false
  out : j < n → ng j = true

theorem enF_spec (n : Nat) (ng : Nat → Bool) (s : Nat) : ∀ k j, s < j → j ≤ n → n ≤ j + k → (∀ m, s < m → m < j → ng m = false) → Ends n ng s (enF n ng k j)
  | 0, j, h1, h2, h3, h4 => ⟨h1, h2, h4, fun h => by simp only [enF] at h; omega⟩
  | k + 1, j, h1, h2, h3, h4 => by
    unfold enF
    split
    · rename_i h
      exact enF_spec n ng s k (j + 1) (by omega) (by omega) (by omega) (fun m m1 m2 => by
        rcases Nat.eq_or_lt_of_le (Nat.le_of_lt_succ m2) with e | e
        · rw [e]; exact h.2
        · exact h4 m m1 e)
    · rename_i h
      refine ⟨h1, h2, h4, fun hj => ?_⟩
      cases hg : ng j
      · exact absurd ⟨hj, hg⟩ h
      · rfl

theorem enOf_spec {n : Nat} (ng : Nat → Bool) {s : Nat} (h : s < n) : Ends n ng s (enOf n ng s) :=
  enF_spec n ng s n (s + 1) (by omega) (by omega) (by omega) (fun m h1 h2 => by omega)

theorem Ends.uniq {n : Nat} {ng : Nat → Bool} {s j j' : Nat} (h : Ends n ng s j) (h' : Ends n ng s j') : j = j' := by
  have a := h.le; have b := h'.le
  rcases Nat.lt_trichotomy j j' with e | e | e
  · have h1 := h.out (by omega); have h2 := h'.inn j h.lt e; rw [h1] at h2; cases h2
  · exact e
  · have h1 := h'.out (by omega); have h2 := h.inn j' h'.lt e; rw [h1] at h2; cases h2

theorem Ends.eq {n : Nat} {ng : Nat → Bool} {s j : Nat} (h : Ends n ng s j) : j = enOf n ng s := h.uniq (enOf_spec ng (Nat.lt_of_lt_of_le h.lt h.le))

theorem stOf_le (ng : Nat → Bool) : ∀ i, stOf ng i ≤ i
  | 0 => Nat.le_refl _
  | i + 1 => by
    have := stOf_le ng i
    unfold stOf; split <;> omega

theorem stOf_opens (ng : Nat → Bool) : ∀ i, Opens ng (stOf ng i)
  | 0 => .inl rfl
  | i + 1 => by
    unfold stOf; split
    · rename_i h; exact .inr h
    · exact stOf_opens ng i

theorem stOf_in (ng : Nat → Bool) : ∀ i m, stOf ng i < m → m ≤ i → ng m = false
  | 0, m, h1, h2 => by simp only [stOf] at h1; omega
  | i + 1, m, h1, h2 => by
    unfold stOf at h1
    split at h1
    · omega
    · rename_i h
      rcases Nat.eq_or_lt_of_le h2 with e | e
      · rw [e]; cases hg : ng (i + 1)
        · rfl
        · exact absurd hg h
      · exact stOf_in ng i m h1 (by omega)

theorem stOf_eq (ng : Nat → Bool) {s : Nat} (ho : Opens ng s) : ∀ i, s ≤ i → (∀ m, s < m → m ≤ i → ng m = false) → stOf ng i = s
  | 0, h1, _ => by simp only [stOf]; omega
  | i + 1, h1, h2 => by
    unfold stOf
    rcases Nat.eq_or_lt_of_le h1 with e | e
    · subst e
      rcases ho with h | h
      · omega
      · rw [if_pos h]
    · have := h2 (i + 1) e (Nat.le_refl _)
      rw [if_neg (by rw [this]; simp)]
      exact stOf_eq ng ho i (by omega) (fun m m1 m2 => h2 m m1 (by omega))

theorem stOf_st (ng : Nat → Bool) (i : Nat) : stOf ng (stOf ng i) = stOf ng i := stOf_eq ng (stOf_opens ng i) _ (Nat.le_refl _) (fun m h1 h2 => by omega)

theorem opens_st {ng : Nat → Bool} {s : Nat} (h : Opens ng s) : stOf ng s = s := stOf_eq ng h s (Nat.le_refl _) (fun m h1 h2 => by omega)

theorem in_group {n : Nat} {ng : Nat → Bool} {s k : Nat} (ho : Opens ng s) (hs : s < n) (h1 : s ≤ k) (h2 : k < enOf n ng s) : stOf ng k = s :=
  stOf_eq ng ho k h1 (fun m m1 m2 => (enOf_spec ng hs).inn m m1 (by omega))

theorem lt_en {n : Nat} (ng : Nat → Bool) {i : Nat} (h : i < n) : i < enOf n ng (stOf ng i) := by
  have hs := stOf_le ng i
  have e := enOf_spec ng (show stOf ng i < n by omega)
  rcases Nat.lt_or_ge i (enOf n ng (stOf ng i)) with l | l
  · exact l
  · have h1 := stOf_in ng i _ e.lt l
    have h2 := e.out (by omega)
    rw [h1] at h2; cases h2

theorem vd_st (F : Fs) : ∀ i, i < F.n → Vd F (stOf F.ng) (lnOf F.n F.ng) (stOf F.ng i) := fun i hi => by
  have hs := stOf_le F.ng i
  have e := enOf_spec F.ng (show stOf F.ng i < F.n by omega)
  have h1 := e.lt
  have h2 := e.le
  exact ⟨by omega, stOf_st _ _, by unfold lnOf; omega, by unfold lnOf; omega⟩

/-- f with its value at o turned -/
def upd (f : Nat → Value) (o : Nat) (v : Value) : Nat → Value := fun x => if x = o then v else f x
theorem upd_same (f : Nat → Value) (o : Nat) (v : Value) : upd f o v o = v := by simp [upd]
theorem upd_other (f : Nat → Value) {o x : Nat} (v : Value) (h : x ≠ o) : upd f o v x = f x := by simp [upd, h]

/-- block blk: m cells, as f says -/
def Row (w : World) (blk : Nat) (e : TypeId) (m : Nat) (f : Nat → Value) : Prop :=
  ∃ cur, w.heap[blk]? = some (.cells cur e (0, 0)) ∧ cur.size = m ∧ ∀ i, i < m → cur[i]? = some (f i)

section
variable {w w' : World} {blk m : Nat} {e : TypeId} {f : Nat → Value}
theorem Row.cell (h : Row w blk e m f) {i : Nat} (hi : i < m) : w.cell? ⟨blk, i, none⟩ = some (f i) := by
  obtain ⟨cur, h1, h2, h3⟩ := h
  rw [← h3 i hi]; simp [World.cell?, h1]
theorem Row.free (h : Row w blk e m f) (i : Nat) : w.frozen? ⟨blk, i, none⟩ = false := by
  obtain ⟨cur, h1, h2, h3⟩ := h
  simp [World.frozen?, h1]
theorem Row.lt (h : Row w blk e m f) : blk < w.heap.size := by
  obtain ⟨cur, h1, _⟩ := h
  exact (Array.getElem?_eq_some_iff.1 h1).1
theorem Row.set (h : Row w blk e m f) (i : Nat) (v : Value) : Row (w.setCell ⟨blk, i, none⟩ v) blk e m (upd f i v) := by
  obtain ⟨cur, h1, h2, h3⟩ := h
  refine ⟨cur.setIfInBounds i v, ?_, by simp [h2], fun j hj => ?_⟩
  · simp only [World.setCell, Array.getElem?_modify, h1]; simp
  · rw [Array.getElem?_setIfInBounds]
    by_cases e : i = j
    · subst e; simp [h2, hj, upd_same]
    · rw [if_neg e, h3 j hj, upd_other _ _ (Ne.symm e)]
theorem Row.keep (h : Row w blk e m f) (hb : w'.heap[blk]? = w.heap[blk]?) : Row w' blk e m f := by
  obtain ⟨cur, h1, h2⟩ := h
  exact ⟨cur, hb.trans h1, h2⟩
theorem Row.other (h : Row w blk e m f) {a : Addr} (ha : blk ≠ a.block) (v : Value) : Row (w.setCell a v) blk e m f := h.keep (Below.heap_setCell _ _ _ _ ha)
theorem Row.alloc (h : Row w blk e m f) (o : Obj) : Row (w.alloc o) blk e m f := h.keep (Below.heap_alloc _ _ _ h.lt)
theorem Row.drew (h : Row w blk e m f) : Row w.drew blk e m f := h
theorem Row.drewN (h : Row w blk e m f) (q : Nat) : Row (w.drewN q) blk e m f := h
end

theorem make_row {P : Program} (t e : TypeId) (size : Nat) (ht : P.underlying t = some (.slice e)) (hinfo : (P.info? e).map (fun i => (i.zero.isSome, i.size, decide (i.bytes ≤ 4096))) = some (true, size, true)) (n : Nat) (hn : n ≤ 1048576) :
    ∃ o f, (∀ w, (Instr.makeSlice t (.int .i64 (n : Int)) (.int .i64 (n : Int))).run P w = .ok (.slice (some ⟨w.heap.size, 0, none⟩) n n) (w.alloc o)) ∧ ∀ w : World, Row (w.alloc o) w.heap.size e (n * size) f := by
  obtain ⟨i, hi, hzz⟩ := Option.map_eq_some_iff.1 hinfo
  simp only [Prod.mk.injEq] at hzz
  obtain ⟨hz, rfl, hby⟩ := hzz
  have hby := of_decide_eq_true hby
  obtain ⟨z, hz⟩ := Option.isSome_iff_exists.1 hz
  refine ⟨.cells (madeCells z.cells (n * i.size)) e, fun k => z.cells[k % z.cells.size]!, fun w => ?_, fun w => ⟨_, heap_alloc_new w _, size_madeCells _ _, fun k hk => ?_⟩⟩
  · have hb' : (i.bytes : Int) * (n : Int) ≤ 281474976710656 := by
      have h1 : i.bytes * n ≤ 4096 * 1048576 := Nat.mul_le_mul hby hn
      have h : ((i.bytes * n : Nat) : Int) ≤ 281474976710656 := by omega
      rwa [Int.natCast_mul] at h
    have hr := run_make (P := P) w t e i z ht hi hz .i64 .i64 n n (by omega) (Int.le_refl _) hb' (by omega)
    simpa only [Int.toNat_natCast] using hr
  · simp [madeCells, hk]

theorem size42 : (Try.prog.info? 42).map (fun i => (i.zero.isSome, i.size, decide (i.bytes ≤ 4096))) = some (true, 18, true) := by kernel_rfl
theorem size51 : (Try.prog.info? 51).map (fun i => (i.zero.isSome, i.size, decide (i.bytes ≤ 4096))) = some (true, 1, true) := by kernel_rfl
theorem size3 : (Try.prog.info? 3).map (fun i => (i.zero.isSome, i.size, decide (i.bytes ≤ 4096))) = some (true, 1, true) := by kernel_rfl
end Go.Proofs.Qxb6618735a

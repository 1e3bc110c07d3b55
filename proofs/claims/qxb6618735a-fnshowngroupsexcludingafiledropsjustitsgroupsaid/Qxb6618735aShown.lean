/- seat b6618735a: shownGroups -/
import Derived.Test.Qxb6618735aKept
import Derived.Test.Qxb6618735aCmp
import Derived.OwnWalk
import Derived.Below
namespace Go.Proofs.Qxb6618735a
open Go.RowKit

theorem info34 : (Try.prog.info? 34).map (fun i => (i.zero, i.size, i.bytes)) = some (some (.slice none 0 0), 1, 24) := by kernel_rfl

open Classical in
/-- x starts a group that is shown and kept -/
noncomputable def qf (F : Fs) (ex : Nat → Bool) (st ln : Nat → Nat) (x : Nat) : Bool := decide (st x = x ∧ Shn F ln x ∧ ¬ Drp ex ln x)
theorem qf_true {F : Fs} {ex : Nat → Bool} {st ln : Nat → Nat} {x : Nat} : qf F ex st ln x = true ↔ st x = x ∧ Shn F ln x ∧ ¬ Drp ex ln x := by simp [qf]

/-- the qualifying starts below i -/
noncomputable def dl (F : Fs) (ex : Nat → Bool) (st ln : Nat → Nat) (i : Nat) : List Nat := (List.range i).filter (qf F ex st ln)

section
variable {F : Fs} {ex : Nat → Bool} {st ln : Nat → Nat}
theorem dl_yes {i : Nat} (h : qf F ex st ln i = true) : dl F ex st ln (i + 1) = dl F ex st ln i ++ [i] := by
  simp [dl, List.range_succ, h]
theorem dl_no {i : Nat} (h : ¬ qf F ex st ln i = true) : dl F ex st ln (i + 1) = dl F ex st ln i := by
  simp [dl, List.range_succ, h]
theorem dl_len (i : Nat) : (dl F ex st ln i).length ≤ i := by
  have := List.length_filter_le (qf F ex st ln) (List.range i)
  simpa [dl] using this
theorem dl_up (i : Nat) : (dl F ex st ln i).Pairwise (· < ·) := List.Pairwise.filter _ List.pairwise_lt_range
theorem dl_mem {i x : Nat} : x ∈ dl F ex st ln i ↔ x < i ∧ qf F ex st ln x = true := by simp [dl]
end

/-- shownGroups at work -/
structure ShI (Gb ln : Nat → Nat) (w : World) (v : Value) (D : List Nat) (wr : World) : Prop where
  below : Below w.heap.size w wr
  box : wr.cell? ⟨w.heap.size, 0, none⟩ = some (.func (.func 17) #[] #[])
  own : wr.ownsRow (w.heap.size + 1) 34 1 v D.length (D.map (encG Gb ln))

/-- the slice v holds the groups Z -/
structure Got (Gb ln : Nat → Nat) (B : Nat) (v : Value) (Z : List Nat) (w' : World) : Prop where
  it : ∃ p cap blk, v = .slice p Z.length cap ∧ B ≤ blk ∧ (0 < Z.length → p = some ⟨blk, 0, none⟩) ∧ ∀ i, i < Z.length → w'.cell? ⟨blk, i, none⟩ = some (encG Gb ln (Z.getD i 0))

def shownPost (F : Fs) (ex : Nat → Bool) (st ln Gb : Nat → Nat) (w : World) (e : Ending) (w' : World) : Prop :=
  ∃ v Z, e = .returned v ∧ Below w.heap.size w w' ∧ Z.Perm (dl F ex st ln F.n) ∧ Sd (ltc (cfOf F ln)) Z ∧ Got Gb ln w.heap.size v Z w'

theorem ShI.srt {Gb ln : Nat → Nat} {w wr : World} {g n cap : Nat} {D : List Nat} (h : ShI Gb ln w (.slice (some ⟨g, 0, none⟩) n cap) D wr) : n = D.length ∧ w.heap.size ≤ g ∧ Srt Gb ln wr g D wr := by
  obtain ⟨_, _, h1, h2⟩ := h
  rcases h2 with ⟨h, _⟩ | ⟨g', cap', cur, h3, h4, h5, h6, h7, h8, h9⟩
  · cases h
  · cases h3
    refine ⟨rfl, by omega, rfl, rfl, rfl, rfl, fun _ _ => rfl, cur, h5, fun i hi => ?_⟩
    have : (cur.toList.take (D.length * 1))[i]? = (D.map (encG Gb ln))[i]? := by rw [h9]
    rw [Nat.mul_one, List.getElem?_take, if_pos hi] at this
    simpa [hi] using this

theorem ShI.cases {Gb ln : Nat → Nat} {w wr : World} {v : Value} {D : List Nat} (h : ShI Gb ln w v D wr) : (v = .slice none 0 0 ∧ D = []) ∨ ∃ g cap, v = .slice (some ⟨g, 0, none⟩) D.length cap := by
  rcases h.own.2 with ⟨h, h0⟩ | ⟨g', cap', cur, h3, _⟩
  · exact .inl ⟨h, List.length_eq_zero_iff.1 h0⟩
  · exact .inr ⟨_, _, h3⟩

set_option maxHeartbeats 3200000 in
set_option maxRecDepth 100000 in
theorem shown_any (F : Fs) (ex : Nat → Bool) (st ln Gb : Nat → Nat) (BR BF : Nat) (w : World) (b : Bd F) (hv : ∀ i, i < F.n → Vd F st ln (st i)) (R : Rep F ex st ln Gb BR BF w) :
    Calls Try.prog 16 #[.pointer (some ⟨BR, 0, none⟩), .func (.func 17) #[] #[]] w fun e w' => shownPost F ex st ln Gb w e w' := by
  have HB : Hid (Bd F) := b
  have HR : Hid (Rep F ex st ln Gb BR BF w) := R
  have HV : Hid (∀ i, i < F.n → Vd F st ln (st i)) := hv
  have hn := b.n
  have c0 := R.files
  have hB0 := World.block_lt_of_cell? w _ c0
  clear b R hv
  go_enter Try.func16, Try.ntmps16
  go_wp2
  obtain ⟨i34, hi34, hz0, hz1, hz2⟩ := info_parts info34
  go_loopw [5, 14] (fun v i wr => ∃ k : Nat, k ≤ F.n ∧ i = .int .i64 k ∧ Hid (ShI Gb ln w v (dl F ex st ln k) wr)) (fun _ i _ => F.n - (intOf i).toNat)
  case atStart =>
    exact ⟨0, by omega, rfl, (Below.refl _ w).alloc (Nat.le_refl _) _, World.cell?_alloc_at _ _ _ _ rfl, World.ownsRow_nil _ _ _ _⟩
  case round =>
    obtain ⟨k, hk, rfl, HI⟩ := hrel
    have R : Rep F ex st ln Gb BR BF wr := HR.out.keep HI.out.below.block
    have HRw : Hid (Rep F ex st ln Gb BR BF wr) := R
    by_cases hlt : k < F.n
    · have V := HV.out k hlt
      have HVk : Hid (Vd F st ln (st k)) := V
      have d0 := R.files
      have d1 := R.group k hlt
      have d2 := R.at0 V
      have hp := V.pos
      have he := run_ptr_eql R.row (st k) k
      clear R V
      by_cases hst : st k = k
      · rw [hst] at d1 d2 hp HVk he
        rw [decide_eq_true rfl] at he
        have c20 := last_any F ex st ln Gb BR BF wr k hn HRw.out HVk.out
        have c21 := contains_any F ex st ln Gb BR BF w.heap.size wr k hn HRw.out HVk.out HI.out.box
        go_wp2_with fail
        refine c20.mono ?_
        rintro e w1 ⟨p, rfl, hw, hp1⟩
        obtain rfl := hw.symm
        cases p with
        | none =>
          have HN : Hid (ShI Gb ln w u5 (dl F ex st ln (k + 1)) wr) := by rw [dl_no (fun h => (hp1.2 (qf_true.1 h).2.1) rfl)]; exact HI
          clear hp1
          go_wp2
          go_roundw
          case rel => exact ⟨k + 1, by omega, by go_num, HN⟩
          case measure => simp [intOf]; omega
        | some p =>
          have hsh : Hid (Shn F ln k) := hp1.1 (by simp)
          clear hp1
          go_wp2_with fail
          refine c21.mono ?_
          rintro e w2 ⟨z, rfl, hw, hz⟩
          obtain rfl := hw.symm
          cases z with
          | true =>
            have HN : Hid (ShI Gb ln w u5 (dl F ex st ln (k + 1)) wr) := by rw [dl_no (fun h => (qf_true.1 h).2.2 (hz.1 rfl))]; exact HI
            clear hz
            go_wp2
            go_roundw
            case rel => exact ⟨k + 1, by omega, by go_num, HN⟩
            case measure => simp [intOf]; omega
          | false =>
            have hq : Hid (dl F ex st ln (k + 1) = dl F ex st ln k ++ [k]) := dl_yes (qf_true.2 ⟨hst, hsh.out, fun h => by have := hz.2 h; cases this⟩)
            clear hz hsh
            have hdl := dl_len (F := F) (ex := ex) (st := st) (ln := ln) k
            have hw1 : w.heap.size < wr.heap.size := World.block_lt_of_cell? wr _ HI.out.box
            go_wp2_with (at_builtin; refine wpList_append_own _ rfl _ _ 28 rfl (w.heap.size + 1) 34 i34 (.slice none 0 0) 1 24 Try.underlying28 hi34 hz0 hz1 hz2 rfl (by decide) _ _ _ rfl (HI.out.own.alloc _) ⟨wr.heap.size, 0, none⟩ 1 1 [encG Gb ln k] rfl rfl ?c1 ?c2 ?c3 ?c4 ?c5 ?_)
            case c1 =>
              intro j u hj
              cases j with
              | zero => simp at hj; subst hj; exact World.cell?_alloc_at _ _ _ _ rfl
              | succ j => simp at hj
            case c2 => intro u hu; simp at hu; subst hu; rfl
            case c3 => simp only [maxLen]; omega
            case c4 => omega
            case c5 => simp; omega
            intro v' w' hown hgr hnil
            have HN : Hid (ShI Gb ln w v' (dl F ex st ln (k + 1)) w') := by
              have hb : ∀ r, u5.ownBlock = some r → w.heap.size + 1 ≤ r := fun r hr => (HI.out.own.lt r hr).1
              rw [hq.out]
              refine ⟨(HI.out.below.alloc (by omega) _).grown hgr (by simp; omega) (fun r hr => by have := hb r hr; omega), hgr.cell ((World.cell?_alloc_past _ _ _ hw1).trans HI.out.box) (fun h => ?_), by simpa using hown⟩
              have := hb _ h.symm
              simp at this
              omega
            clear hown hgr hnil
            go_wp2
            go_roundw
            case rel => exact ⟨k + 1, by omega, by go_num, HN⟩
            case measure => simp [intOf]; omega
      · rw [decide_eq_false hst] at he
        have HN : Hid (ShI Gb ln w u5 (dl F ex st ln (k + 1)) wr) := by rw [dl_no (fun h => hst (qf_true.1 h).1)]; exact HI
        go_wp2
        go_roundw
        case rel => exact ⟨k + 1, by omega, by go_num, HN⟩
        case measure => simp [intOf]; omega
    · obtain rfl : k = F.n := by omega
      clear R
      rcases HI.out.cases with ⟨rfl, hD⟩ | ⟨g, cap, rfl⟩
      · have HP : Hid (Below w.heap.size w wr ∧ dl F ex st ln F.n = []) := ⟨HI.out.below, hD⟩
        clear hD
        go_wp2_with fail
        refine (sortStable0_any _).mono ?_
        rintro e w1 ⟨rfl, hw⟩
        obtain rfl := hw.symm
        go_wp2
        go_ret
        refine ⟨_, [], rfl, HP.out.1, by rw [HP.out.2], List.Pairwise.nil, ⟨none, 0, w.heap.size, rfl, Nat.le_refl _, fun h => by simp at h, fun i hi => by simp at hi⟩⟩
      · obtain ⟨_, hg, hs⟩ := HI.out.srt
        have hdl := dl_len (F := F) (ex := ex) (st := st) (ln := ln) F.n
        have c := sortStable_any Gb ln wr wr g cap (Vd F st ln) (cfOf F ln) (swo_any F ln) (dl F ex st ln F.n) _ rfl (by omega) (dl_up _) (fun x hx => by
          obtain ⟨h1, h2⟩ := dl_mem.1 hx
          have := HV.out x h1
          rwa [(qf_true.1 h2).1] at this) (cmp_ok F ex st ln Gb BR BF g w wr HB.out HR.out HI.out.below.block hg) hs
        have HP : Hid (∀ w1, (∃ Z : List Nat, Z.Perm (dl F ex st ln F.n) ∧ Sd (ltc (cfOf F ln)) Z ∧ Srt Gb ln wr g Z w1) → shownPost F ex st ln Gb w (.returned (.slice (some ⟨g, 0, none⟩) (dl F ex st ln F.n).length cap)) w1) := fun w1 ⟨Z, z1, z2, z3⟩ =>
          ⟨_, Z, rfl, ⟨z3.os.trans HI.out.below.os, z3.tape.trans HI.out.below.tape, z3.output.trans HI.out.below.output, by rw [z3.size]; exact HI.out.below.size, fun k hk => (z3.other k (by omega)).trans (HI.out.below.block k hk)⟩, z1, z2, ⟨_, cap, g, by rw [z1.length_eq], hg, fun _ => rfl, fun i hi => z3.cell i hi⟩⟩
        clear hs hg hdl
        go_wp2_with fail
        refine c.mono ?_
        rintro e w1 ⟨rfl, hz⟩
        have HZ := hide (HP.out w1 hz)
        clear hz c HP
        go_wp2
        go_ret
        exact HZ.out

theorem zzshown_any (F : Fs) (ex : Nat → Bool) (st ln Gb : Nat → Nat) (BR BF : Nat) (w : World) (b : Bd F) (hv : ∀ i, i < F.n → Vd F st ln (st i)) (R : Rep F ex st ln Gb BR BF w) :
    Calls Try.prog 8 #[.pointer (some ⟨BR, 0, none⟩)] w fun e w' => shownPost F ex st ln Gb w e w' := by
  have c := shown_any F ex st ln Gb BR BF w b hv R
  clear b hv R
  go_enter Try.func8, Try.ntmps8
  go_wp2_with fail
  refine c.mono ?_
  rintro e w1 ⟨v, Z, rfl, hz⟩
  have HZ := hide hz
  clear hz c
  go_wp2
  go_ret
  exact ⟨v, Z, rfl, HZ.out⟩
end Go.Proofs.Qxb6618735a

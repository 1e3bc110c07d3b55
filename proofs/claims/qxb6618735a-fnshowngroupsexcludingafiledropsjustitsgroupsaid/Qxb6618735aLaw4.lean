/- seat b6618735a: FnShownGroupsExcludingAFileDropsJustItsGroup, walked -/
import Derived.Test.Qxb6618735aExcl
namespace Go.Proofs.Qxb6618735a
open Go.RowKit

def yesPost (w : World) (e : Ending) (w' : World) : Prop := e = .returned (.bool true) ∧ Below w.heap.size w w'

/-- what is known when both answers are at hand -/
structure Both (F : Fs) (ex : Nat → Bool) (J : Nat) (Gb : Nat → Nat) (p : Option Addr) (BI off : Nat) (w : World) (Z Z' : List Nat) (gb gb' : Nat) (w4 : World) : Prop where
  below : Below w.heap.size w w4
  ctx : Ctx F ex (exJ ex J) Gb p BI off w.heap.size w4
  perm : Z.Perm (dl F ex (stOf F.ng) (lnOf F.n F.ng) F.n)
  sd : Sd (ltc (cfOf F (lnOf F.n F.ng))) Z
  eq : Z' = Z.filter (fun x => decide (x ≠ stOf F.ng J))
  got : ∀ i, i < Z.length → w4.cell? ⟨gb, i, none⟩ = some (encG Gb (lnOf F.n F.ng) (Z.getD i 0))
  got' : ∀ i, i < Z'.length → w4.cell? ⟨gb', i, none⟩ = some (encG Gb (lnOf F.n F.ng) (Z'.getD i 0))

theorem Both.drewN {F : Fs} {ex : Nat → Bool} {J : Nat} {Gb : Nat → Nat} {p : Option Addr} {BI off : Nat} {w : World} {Z Z' : List Nat} {gb gb' : Nat} {w4 : World} (h : Both F ex J Gb p BI off w Z Z' gb gb' w4) (q : Nat) : Both F ex J Gb p BI off w Z Z' gb gb' (w4.drewN q) :=
  ⟨⟨h.below.os, h.below.tape, h.below.output, h.below.size, h.below.block⟩, h.ctx.keep fun _ _ => rfl, h.perm, h.sd, h.eq, h.got, h.got'⟩

set_option maxHeartbeats 6400000 in
set_option maxRecDepth 100000 in
theorem law4_any (F : Fs) (ex : Nat → Bool) (p : Option Addr) (cap BI off : Nat) (w : World) (I : Inp F ex p BI off w) (j : Int) :
    Calls Try.prog 4 #[.slice p F.n cap, .int .i64 j] w fun e w' => yesPost w e w' := by
  have HI : Hid (Inp F ex p BI off w) := I
  clear I
  go_enter Try.func4, Try.ntmps4
  go_wp2_with fail
  refine (zz13_any F ex p cap BI off w HI.out j).mono ?_
  rintro e w1 ⟨z, rfl, hw⟩
  obtain rfl := hw.symm
  cases z with
  | false =>
    go_wp2
    go_ret
    exact ⟨rfl, Below.refl _ _⟩
  | true =>
    go_wp2_with fail
    refine (refused_any F ex p cap BI off w HI.out).mono ?_
    rintro e w1 ⟨z, rfl, hw, hb⟩
    obtain rfl := hw.symm
    cases z with
    | true =>
      go_wp2
      go_ret
      exact ⟨rfl, Below.refl _ _⟩
    | false =>
      obtain ⟨b, hp⟩ := hb rfl
      have HB : Hid (Bd F) := b
      have hn := b.n
      clear b hp hb
      by_cases hj0 : j < 0
      · go_wp2
        go_ret
        exact ⟨rfl, Below.refl _ _⟩
      by_cases hj1 : (F.n : Int) ≤ j
      · go_wp2
        go_ret
        exact ⟨rfl, Below.refl _ _⟩
      obtain ⟨J, rfl⟩ : ∃ J : Nat, j = J := ⟨j.toNat, by omega⟩
      have hJ : J < F.n := by omega
      clear hj0 hj1
      go_wp2_with fail
      refine (build_any F ex p cap BI off w hn HI.out).mono ?_
      rintro e w1 ⟨f, sf, ef, Gb, rfl, hbs⟩
      have HC1 : Hid (Below w.heap.size w w1 ∧ w.heap.size + 4 ≤ w1.heap.size ∧ Ctx F ex ex Gb p BI off w.heap.size w1) := ⟨hbs.mem.below, hbs.size, hbs.ctx HI.out⟩
      have HFar : Hid (∀ i, i < F.n → Gb (stOf F.ng i) ≠ w.heap.size) := fun i hi => by have := hbs.far i hi; omega
      clear hbs
      go_wp2_with fail
      refine (zzshown_any F ex (stOf F.ng) (lnOf F.n F.ng) Gb (w.heap.size + 1) w.heap.size w1 HB.out (vd_st F) HC1.out.2.2.R).mono ?_
      rintro e w2 ⟨v, Z, rfl, hbl, hz1, hz2, ⟨gp, gc, gb, rfl, hgb, hgp, hgc⟩⟩
      have HC2 : Hid (Below w.heap.size w w2 ∧ Ctx F ex ex Gb p BI off w.heap.size w2) := by
        have hs := HC1.out.1.size
        exact ⟨HC1.out.1.trans (hbl.mono hs), HC1.out.2.2.keep hbl.block⟩
      have HZ : Hid (Z.Perm (dl F ex (stOf F.ng) (lnOf F.n F.ng) F.n) ∧ Sd (ltc (cfOf F (lnOf F.n F.ng))) Z) := ⟨hz1, hz2⟩
      have HG : Hid (∀ i, i < Z.length → w2.cell? ⟨gb, i, none⟩ = some (encG Gb (lnOf F.n F.ng) (Z.getD i 0))) := hgc
      have HGb : Hid (gb ≠ w.heap.size) := by have := HC1.out.2.1; show gb ≠ w.heap.size; omega
      have hZn : Z.length ≤ F.n := by have := dl_len (F := F) (ex := ex) (st := stOf F.ng) (ln := lnOf F.n F.ng) F.n; have := hz1.length_eq; omega
      clear hbl hz1 hz2 hgb hgc HC1
      have c1 := HC2.out.2.R.files
      have c2 := HC2.out.2.R.exc J hJ
      have c3 : w2.frozen? ⟨w.heap.size, J * 18 + 9, none⟩ = false := by
        obtain ⟨cb, tb, h⟩ := HC2.out.2.R.row
        simp [World.frozen?, h]
      have HC3 : Hid (Below w.heap.size w (w2.setCell ⟨w.heap.size, J * 18 + 9, none⟩ (.bool true)) ∧ Ctx F ex (exJ ex J) Gb p BI off w.heap.size (w2.setCell ⟨w.heap.size, J * 18 + 9, none⟩ (.bool true)) ∧ ∀ i, i < Z.length → (w2.setCell ⟨w.heap.size, J * 18 + 9, none⟩ (.bool true)).cell? ⟨gb, i, none⟩ = some (encG Gb (lnOf F.n F.ng) (Z.getD i 0))) := by
        refine ⟨HC2.out.1.setCell (Nat.le_refl _) _, HC2.out.2.store hJ ?_ HFar.out, fun i hi => ?_⟩
        · have := World.block_lt_of_cell? w _ (HI.out.path 0 (by omega))
          exact Nat.ne_of_lt this
        · rw [World.cell?_setCell_other _ _ _ _ (fun e => HGb.out (by injection e with e1; exact e1.symm))]; exact HG.out i hi
      clear HG HC2 HFar HGb
      go_wp2_with fail
      generalize World.setCell w2 ⟨w.heap.size, J * 18 + 9, none⟩ (.bool true) = w3 at HC3 ⊢
      clear c1 c2 c3
      refine (zzshown_any F (exJ ex J) (stOf F.ng) (lnOf F.n F.ng) Gb (w.heap.size + 1) w.heap.size w3 HB.out (vd_st F) HC3.out.2.1.R).mono ?_
      rintro e w4 ⟨v, Z', rfl, hbl, hz1, hz2, ⟨gp', gc', gb', rfl, hgb, hgp', hgc⟩⟩
      have HM : Hid (Both F ex J Gb p BI off w Z Z' gb gb' w4) := ⟨HC3.out.1.trans (hbl.mono HC3.out.1.size), HC3.out.2.1.keep hbl.block, HZ.out.1, HZ.out.2, after_eq hJ HZ.out.1 HZ.out.2 hz1 hz2, fun i hi => cell_keep hbl.block (HC3.out.2.2 i hi), hgc⟩
      have hZn' : Z'.length ≤ F.n := by have := dl_len (F := F) (ex := exJ ex J) (st := stOf F.ng) (ln := lnOf F.n F.ng) F.n; have := hz1.length_eq; omega
      clear hbl hz1 hz2 hgb hgc HC3 HZ HI HB
      clear w2 w3
      have hsn : stOf F.ng J < F.n := by have := stOf_le F.ng J; omega
      have hss : stOf F.ng (stOf F.ng J) = stOf F.ng J := stOf_st _ _
      have d1 := HM.out.ctx.S J hJ
      have HSE : Hid (∀ wr, Both F ex J Gb p BI off w Z Z' gb gb' wr → wr.cell? ⟨w.heap.size + 3, stOf F.ng J, none⟩ = some (.int .i64 (enOf F.n F.ng (stOf F.ng J)))) := fun wr h => by
        have := h.ctx.E _ hsn
        rwa [hss] at this
      obtain ⟨j1, j2, j3⟩ := en_ln (ng := F.ng) hsn
      have HVs : Hid (Vd F (stOf F.ng) (lnOf F.n F.ng) (stOf F.ng J)) := vd_st F J hJ
      have HIn : Hid (stOf F.ng J ∈ Z ↔ Shn F (lnOf F.n F.ng) (stOf F.ng J) ∧ ¬ Drp ex (lnOf F.n F.ng) (stOf F.ng J)) := by
        refine HM.out.perm.mem_iff.trans (dl_mem.trans ⟨fun h => (qf_true.1 h.2).2, fun h => ⟨hsn, qf_true.2 ⟨hss, h⟩⟩⟩)
      have HEq : Hid (Z' = Z.filter (fun x => decide (x ≠ stOf F.ng J))) := HM.out.eq
      generalize stOf F.ng J = s at *
      have HE1 : Hid (enOf F.n F.ng s = s + lnOf F.n F.ng s) := j1
      clear j1
      generalize enOf F.n F.ng s = en at *
      go_wp2
      go_loopw [11, 12] (fun x y wr => ∃ (k : Nat) (pos : Int), k ≤ Z.length ∧ x = .int .i64 pos ∧ y = .int .i64 k ∧ Hid (Both F ex J Gb p BI off w Z Z' gb gb' wr) ∧ Hid (Ps Z s k pos)) (fun _ y _ => F.n - (intOf y).toNat)
      case atStart => exact ⟨0, -1, by omega, rfl, rfl, HM, .inl ⟨rfl, by simp⟩⟩
      case round =>
        obtain ⟨k, pos, hk, rfl, rfl, HMr, HP⟩ := hrel
        clear HM d1
        by_cases hkl : k < Z.length
        · obtain rfl := hgp (by omega)
          obtain ⟨x1, x2, x3, x4, x5⟩ := of_dl (HMr.out.perm.subset (show Z.getD k 0 ∈ Z by simp [hkl]))
          have hgk := HMr.out.got k hkl
          obtain ⟨x, hx⟩ : ∃ x, Z.getD k 0 = x := ⟨_, rfl⟩
          have HX : Hid (Z.getD k 0 = x) := hx
          rw [hx] at x1 x5 hgk
          have c10 := startOf_any F (exJ ex J) (stOf F.ng) (lnOf F.n F.ng) Gb (w.heap.size + 1) w.heap.size wr x hn HMr.out.ctx.R x5
          clear x2 x3 x4 x5 hx
          go_wp2_with fail
          refine c10.mono ?_
          rintro e w5 ⟨rfl, hq⟩
          have HM5 : Hid (Both F ex J Gb p BI off w Z Z' gb gb' w5) := by obtain ⟨q, rfl⟩ := hq; exact HMr.out.drewN q
          clear hq c10 hgk HMr
          by_cases hxs : x = s
          · have HP5 : Hid (Ps Z s (k + 1) k) := Ps.hit (by rw [HX.out, hxs])
            subst hxs
            clear HP HX
            go_wp2
            go_roundw
            case rel => exact ⟨k + 1, k, by omega, rfl, by go_num, HM5, HP5⟩
            case measure => simp [intOf]; omega
          · have HP5 : Hid (Ps Z s (k + 1) pos) := Ps.miss hkl (by rw [HX.out]; exact hxs) HP.out
            clear HP HX
            go_wp2
            go_roundw
            case rel => exact ⟨k + 1, pos, by omega, rfl, by go_num, HM5, HP5⟩
            case measure => simp [intOf]; omega
        · obtain rfl : k = Z.length := by omega
          have dE := HSE.out wr HMr.out
          have c9 := qual_any F ex p cap BI off wr hn HMr.out.ctx.I (lnOf F.n F.ng) s en HE1.out j2 hsn
          rename World => w6
          rcases HP.out with ⟨rfl, hno⟩ | ⟨i0, hi0, rfl, hi1⟩
          · rw [List.take_length] at hno
            have HN : Hid (s ∉ Z) := hno
            obtain rfl : Z = Z' := by rw [HEq.out]; exact (sel_none hno).symm
            clear hno HP HEq
            go_wp2_with fail
            refine c9.mono ?_
            rintro e w5 ⟨z, rfl, hw, hz⟩
            obtain rfl := hw.symm
            obtain rfl : z = false := by
              cases z with
              | false => rfl
              | true => exact absurd (HIn.out.2 (hz.1 rfl)) HN.out
            clear hz c9
            go_wp2
            go_quiet (fail)
            have HM7 : Hid (Both F ex J Gb p BI off w Z Z gb gb' (w6.drewN nq)) := HMr.out.drewN nq
            clear HMr dE
            generalize w6.drewN nq = w7 at HM7 ⊢
            go_wp2
            go_loopw [13, 14] (fun x y wr => ∃ k : Nat, k ≤ Z.length ∧ x = .int .i64 k ∧ y = .int .i64 k ∧ Hid (Both F ex J Gb p BI off w Z Z gb gb' wr)) (fun _ y _ => F.n - (intOf y).toNat)
            case atStart => exact ⟨0, by omega, rfl, rfl, HM7⟩
            case round =>
              obtain ⟨k, hk, rfl, rfl, HMr⟩ := hrel
              clear HM7
              by_cases hkl : k < Z.length
              · obtain rfl := hgp (by omega)
                obtain rfl := hgp' (by omega)
                obtain ⟨_, _, _, _, x5⟩ := of_dl (HMr.out.perm.subset (show Z.getD k 0 ∈ Z by simp [hkl]))
                have g1 := HMr.out.got k hkl
                have g2 := HMr.out.got' k hkl
                generalize Z.getD k 0 = x at x5 g1 g2
                have Q14 : Hid (∀ n, Calls Try.prog 14 #[encG Gb (lnOf F.n F.ng) x, encG Gb (lnOf F.n F.ng) x] (wr.drewN n) fun e w'' => e = .returned (.bool true) ∧ ∃ m, w'' = wr.drewN m) := fun n =>
                  (sameGroup_any F (exJ ex J) (stOf F.ng) (lnOf F.n F.ng) Gb (w.heap.size + 1) w.heap.size (wr.drewN n) x hn (HMr.out.ctx.R.drewN n) x5).mono fun _ _ ⟨h1, q, h2⟩ => ⟨h1, n + q, by rw [h2, drewN_two]⟩
                clear x5
                go_wp2
                go_quiet ((go_at_call 14; exact Q14.out _))
                go_wp2
                go_roundw
                case rel => exact ⟨k + 1, by omega, by go_num, by go_num, HMr.out.drewN nq⟩
                case measure => simp [intOf]; omega
              · obtain rfl : k = Z.length := by omega
                have HB7 : Hid (Below w.heap.size w wr) := HMr.out.below
                clear HMr
                go_wp2
                go_ret
                exact ⟨rfl, HB7.out⟩
          · have HS : Hid (Sel Z Z' i0) := by have h := HEq.out; show Sel Z Z' i0; rw [h]; exact sel_of (swo_any F _) HMr.out.sd hi0 hi1
            have HN : Hid (s ∈ Z) := by rw [← hi1]; show Z.getD i0 0 ∈ Z; simp [hi0]
            have hg0 := HMr.out.got i0 hi0
            rw [hi1] at hg0
            have HX : Hid (Z.getD i0 0 = s) := hi1
            clear hi1 HP HEq
            obtain rfl := hgp (by omega)
            go_wp2_with fail
            refine c9.mono ?_
            rintro e w5 ⟨z, rfl, hw, hz⟩
            obtain rfl := hw.symm
            obtain rfl : z = true := hz.2 (HIn.out.1 HN.out)
            clear hz c9
            have Q11 : Hid (∀ n, Calls Try.prog 11 #[.pointer (some ⟨w.heap.size + 1, 0, none⟩), encG Gb (lnOf F.n F.ng) s, .int .i64 s, .int .i64 en] (w6.drewN n) fun e w'' => e = .returned (.bool true) ∧ ∃ m, w'' = w6.drewN m) := fun n =>
              (isGroup_any F (exJ ex J) (stOf F.ng) (lnOf F.n F.ng) Gb (w.heap.size + 1) w.heap.size (w6.drewN n) s en hn (HMr.out.ctx.R.drewN n) HVs.out HE1.out).mono fun _ _ ⟨h1, q, h2⟩ => ⟨h1, n + q, by rw [h2, drewN_two]⟩
            go_wp2
            go_quiet ((go_at_call 11; exact Q11.out _))
            have HM7 : Hid (Both F ex J Gb p BI off w Z Z' gb gb' (w6.drewN nq)) := HMr.out.drewN nq
            clear HMr dE Q11 hg0
            generalize w6.drewN nq = w7 at HM7 ⊢
            have hlen := HS.out.len
            go_wp2
            go_loopw [13, 14] (fun x y wr => ∃ k a : Nat, k ≤ Z.length ∧ (k ≤ i0 ∧ a = k ∨ i0 < k ∧ a + 1 = k) ∧ x = .int .i64 a ∧ y = .int .i64 k ∧ Hid (Both F ex J Gb p BI off w Z Z' gb gb' wr)) (fun _ y _ => F.n - (intOf y).toNat)
            case atStart => exact ⟨0, 0, by omega, by omega, rfl, rfl, HM7⟩
            case round =>
              obtain ⟨k, a, hk, hka, rfl, rfl, HMr⟩ := hrel
              clear HM7
              by_cases hkl : k < Z.length
              · by_cases hki : k = i0
                · obtain rfl : a = k := by omega
                  clear hka
                  subst hki
                  go_wp2
                  go_roundw
                  case rel => exact ⟨a + 1, a, by omega, by omega, rfl, by go_num, HMr⟩
                  case measure => simp [intOf]; omega
                · have hka2 : Hid (k + 1 ≤ i0 ∧ a + 1 = k + 1 ∨ i0 < k + 1 ∧ a + 1 + 1 = k + 1) := by show k + 1 ≤ i0 ∧ a + 1 = k + 1 ∨ i0 < k + 1 ∧ a + 1 + 1 = k + 1; omega
                  have hal : a < Z'.length := by omega
                  have hak : Z'.getD a 0 = Z.getD k 0 := by
                    rcases hka with ⟨h1, rfl⟩ | ⟨h1, rfl⟩
                    · exact HS.out.lo _ (by omega)
                    · exact HS.out.hi _ (by omega)
                  obtain rfl := hgp' (by omega)
                  obtain ⟨_, _, _, _, x5⟩ := of_dl (HMr.out.perm.subset (show Z.getD k 0 ∈ Z by simp [hkl]))
                  have g1 := HMr.out.got k hkl
                  have g2 := HMr.out.got' a hal
                  rw [hak] at g2
                  clear hak hka
                  generalize Z.getD k 0 = x at x5 g1 g2
                  have Q14 : Hid (∀ n, Calls Try.prog 14 #[encG Gb (lnOf F.n F.ng) x, encG Gb (lnOf F.n F.ng) x] (wr.drewN n) fun e w'' => e = .returned (.bool true) ∧ ∃ m, w'' = wr.drewN m) := fun n =>
                    (sameGroup_any F (exJ ex J) (stOf F.ng) (lnOf F.n F.ng) Gb (w.heap.size + 1) w.heap.size (wr.drewN n) x hn (HMr.out.ctx.R.drewN n) x5).mono fun _ _ ⟨h1, q, h2⟩ => ⟨h1, n + q, by rw [h2, drewN_two]⟩
                  clear x5
                  go_wp2
                  go_quiet ((go_at_call 14; exact Q14.out _))
                  go_wp2
                  go_roundw
                  case rel => exact ⟨k + 1, a + 1, by omega, hka2.out, by go_num, by go_num, HMr.out.drewN nq⟩
                  case measure => simp [intOf]; omega
              · obtain rfl : k = Z.length := by omega
                obtain rfl : a = Z'.length := by omega
                have HB7 : Hid (Below w.heap.size w wr) := HMr.out.below
                clear HMr
                go_wp2
                go_ret
                exact ⟨rfl, HB7.out⟩
end Go.Proofs.Qxb6618735a

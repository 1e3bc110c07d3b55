/- seat b6618735a: FnShownGroupsAreTheKeptShownGroupsSmallestFirst, walked -/
import Derived.Test.Qxb6618735aCtx
namespace Go.Proofs.Qxb6618735a
open Go.RowKit

theorem size4 : (Try.prog.info? 4).map (fun i => (i.zero, i.size, i.bytes)) = some (some (.bool false), 1, 1) := by kernel_rfl

/-- a fresh row of n bools -/
theorem make_bools (n : Nat) (hn : n ≤ 1048576) : ∃ o, (∀ w, (Instr.makeSlice 31 (.int .i64 (n : Int)) (.int .i64 (n : Int))).run Try.prog w = .ok (.slice (some ⟨w.heap.size, 0, none⟩) n n) (w.alloc o)) ∧ ∀ w : World, Row (w.alloc o) w.heap.size 4 n (fun _ => .bool false) := by
  obtain ⟨i, hi, hz0, hz1, hz2⟩ := info_parts size4
  refine ⟨.cells (madeCells (Value.bool false).cells (n * 1)) 4, fun w => ?_, fun w => ⟨_, heap_alloc_new w _, by rw [size_madeCells, Nat.mul_one], fun k hk => ?_⟩⟩
  · have hr := run_make (P := Try.prog) w 31 4 i _ Try.underlying31 hi hz0 .i64 .i64 n n (by omega) (Int.le_refl _) (by rw [hz2]; omega) (by omega)
    rw [hz1] at hr
    simpa only [Int.toNat_natCast] using hr
  · simp [madeCells, hk, Value.cells, Nat.mod_one]

/-- the second loop's state -/
structure L3 (F : Fs) (w2 : World) (Z : List Nat) (k : Nat) (wr : World) : Prop where
  below : Below w2.heap.size w2 wr
  row : ∃ bf, Row wr w2.heap.size 4 F.n bf ∧ ∀ x, x < F.n → x ∉ Z.take k → bf x = .bool false

def truePost (w : World) (e : Ending) (w' : World) : Prop := e = .returned (.bool true) ∧ Below w.heap.size w w'

set_option maxHeartbeats 6400000 in
set_option maxRecDepth 100000 in
theorem law3_any (F : Fs) (ex : Nat → Bool) (p : Option Addr) (cap BI off : Nat) (w : World) (I : Inp F ex p BI off w) :
    Calls Try.prog 3 #[.slice p F.n cap] w fun e w' => truePost w e w' := by
  have HI : Hid (Inp F ex p BI off w) := I
  clear I
  go_enter Try.func3, Try.ntmps3
  go_wp2_with fail
  refine (zz5_any F ex p cap BI off w HI.out).mono ?_
  rintro e w1 ⟨z, rfl, hw⟩
  obtain rfl := hw.symm
  cases z with
  | false =>
    go_wp2
    go_ret
    exact ⟨rfl, Below.refl _ _⟩
  | true =>
    go_wp2_with fail
    refine (refused_any F ex p cap BI off w HI.out).mono ?_
    rintro e w1 ⟨z, rfl, hw, hb⟩
    obtain rfl := hw.symm
    cases z with
    | true =>
      go_wp2
      go_ret
      exact ⟨rfl, Below.refl _ _⟩
    | false =>
      obtain ⟨b, hp⟩ := hb rfl
      have HB : Hid (Bd F) := b
      have HPth : Hid (∀ i, i < F.n → (F.path i).size ≤ 1048576) := hp
      have hn := b.n
      clear b hp hb
      go_wp2_with fail
      refine (build_any F ex p cap BI off w hn HI.out).mono ?_
      rintro e w1 ⟨f, sf, ef, Gb, rfl, hbs⟩
      have HC1 : Hid (Below w.heap.size w w1 ∧ Ctx F ex ex Gb p BI off w.heap.size w1) := ⟨hbs.mem.below, hbs.ctx HI.out⟩
      clear hbs
      go_wp2_with fail
      refine (zzshown_any F ex (stOf F.ng) (lnOf F.n F.ng) Gb (w.heap.size + 1) w.heap.size w1 HB.out (vd_st F) HC1.out.2.R).mono ?_
      rintro e w2 ⟨v, Z, rfl, hbl, hz1, hz2, ⟨gp, gc, gb, rfl, hgb, hgp, hgc⟩⟩
      have HC2 : Hid (Below w.heap.size w w2 ∧ Ctx F ex ex Gb p BI off w.heap.size w2) := by
        have hs := HC1.out.1.size
        exact ⟨HC1.out.1.trans (hbl.mono hs), HC1.out.2.keep hbl.block⟩
      have HZ : Hid (Z.Perm (dl F ex (stOf F.ng) (lnOf F.n F.ng) F.n) ∧ Sd (ltc (cfOf F (lnOf F.n F.ng))) Z) := ⟨hz1, hz2⟩
      have HG : Hid (∀ i, i < Z.length → w2.cell? ⟨gb, i, none⟩ = some (encG Gb (lnOf F.n F.ng) (Z.getD i 0))) := hgc
      have HZN : Hid (Z.length = (dl F ex (stOf F.ng) (lnOf F.n F.ng) F.n).length) := hz1.length_eq
      have hZn : Z.length ≤ F.n := by have := dl_len (F := F) (ex := ex) (st := stOf F.ng) (ln := lnOf F.n F.ng) F.n; have := hz1.length_eq; omega
      clear hbl hz1 hz2 hgb hgc HC1
      go_wp2
      go_loopw [8, 9] (fun x y wr => ∃ (s c : Nat), s ≤ F.n ∧ c ≤ s ∧ x = .int .i64 c ∧ y = .int .i64 s ∧ wr = w2 ∧ Hid ((s = F.n ∨ Opens F.ng s) ∧ c = (dl F ex (stOf F.ng) (lnOf F.n F.ng) s).length)) (fun _ y _ => F.n - (intOf y).toNat)
      case atStart => exact ⟨0, 0, by omega, by omega, rfl, rfl, rfl, .inr (.inl rfl), rfl⟩
      case round =>
        obtain ⟨s, c, hs, hcs, rfl, rfl, hw, HL⟩ := hrel
        obtain rfl := hw.symm
        by_cases hlt : s < F.n
        · have ho : Opens F.ng s := by rcases HL.out.1 with h | h; (· omega); exact h
          have cE := HC2.out.2.E s hlt
          rw [opens_st ho] at cE
          obtain ⟨j1, j2, j3⟩ := en_ln (ng := F.ng) hlt
          have c9 := qual_any F ex p cap BI off w2 hn HC2.out.2.I (lnOf F.n F.ng) s (enOf F.n F.ng s) j1 j2 hlt
          have HN : Hid (∀ z : Bool, (z = true ↔ Shn F (lnOf F.n F.ng) s ∧ ¬ Drp ex (lnOf F.n F.ng) s) → (dl F ex (stOf F.ng) (lnOf F.n F.ng) (enOf F.n F.ng s)).length = if z then c + 1 else c) := fun z hz => by
            rw [dl_run ho hlt]
            cases z with
            | true => rw [dl_yes (qf_true.2 ⟨opens_st ho, hz.1 rfl⟩)]; simp [HL.out.2]
            | false => rw [dl_no (fun h => by have := hz.2 (qf_true.1 h).2; cases this)]; simp [HL.out.2]
          have HO : Hid (enOf F.n F.ng s = F.n ∨ Opens F.ng (enOf F.n F.ng s)) := en_opens hlt
          clear ho j1
          generalize enOf F.n F.ng s = en at *
          go_wp2_with fail
          refine c9.mono ?_
          rintro e w3 ⟨z, rfl, hw, hz⟩
          obtain rfl := hw.symm
          have HN2 := hide (HN.out z hz)
          clear hz HN c9
          cases z with
          | true =>
            go_wp2
            go_roundw
            case rel => exact ⟨en, c + 1, by omega, by omega, by go_num, by go_num, trivial, HO.out, by rw [HN2.out]; rfl⟩
            case measure => simp [intOf]; omega
          | false =>
            go_wp2
            go_roundw
            case rel => exact ⟨en, c, by omega, by omega, rfl, by go_num, trivial, HO.out, by rw [HN2.out]; rfl⟩
            case measure => simp [intOf]; omega
        · obtain rfl : s = F.n := by omega
          obtain rfl : c = Z.length := by rw [HZN.out]; exact HL.out.2
          obtain ⟨o4, r4, R4⟩ := make_bools F.n (by omega)
          have HR4 := hide R4
          clear R4
          have H0 : Hid (L3 F w2 Z 0 (w2.alloc o4)) := ⟨(Below.refl _ _).alloc (Nat.le_refl _) _, _, HR4.out w2, fun x _ _ => rfl⟩
          have HCx : Hid (∀ wr, Below w2.heap.size w2 wr → Ctx F ex ex Gb p BI off w.heap.size wr) := fun wr h => HC2.out.2.keep h.block
          have HND : Hid (∀ k, k < Z.length → Z.getD k 0 ∉ Z.take k ∧ Z.getD k 0 ∈ dl F ex (stOf F.ng) (lnOf F.n F.ng) F.n ∧ ∀ y, y ∈ Z.take k → Tlt (ltc (cfOf F (lnOf F.n F.ng))) y (Z.getD k 0)) := by
            intro k hk
            have hmem : Z.getD k 0 ∈ Z := by simp [hk]
            have hdec : Z = Z.take k ++ Z.getD k 0 :: Z.drop (k + 1) := by
              rw [show Z.getD k 0 = Z[k] by simp [hk], ← List.drop_eq_getElem_cons hk, List.take_append_drop]
            have hsd := HZ.out.2
            rw [hdec] at hsd
            have hcr := hsd.cross
            refine ⟨fun h => ?_, HZ.out.1.subset hmem, fun y hy => hcr y hy _ (by simp)⟩
            exact (hcr _ h _ (by simp)).irr (swo_any F _)
          clear HL HR4
          go_wp2
          go_loopw [11, 12] (fun x y wr => ∃ (k : Nat) (pr : Int), k ≤ Z.length ∧ x = .int .i64 pr ∧ y = .int .i64 k ∧ Hid (L3 F w2 Z k wr) ∧ Hid ((k = 0 ∧ pr = -1) ∨ (0 < k ∧ pr = (Z.getD (k - 1) 0 : Nat)))) (fun _ y _ => F.n - (intOf y).toNat)
          case atStart => exact ⟨0, -1, by omega, rfl, rfl, H0, .inl ⟨rfl, rfl⟩⟩
          case round =>
            obtain ⟨k, pr, hk, rfl, rfl, HL, HPR⟩ := hrel
            by_cases hkl : k < Z.length
            · obtain rfl := hgp (by omega)
              obtain ⟨n1, n2, n3⟩ := HND.out k hkl
              obtain ⟨x1, x2, x3, x4, x5⟩ := of_dl n2
              have hgk := cell_keep HL.out.below.block (HG.out k hkl)
              have HT : Hid (∀ y, y ∈ Z.take k → Tlt (ltc (cfOf F (lnOf F.n F.ng))) y (Z.getD k 0)) := n3
              obtain ⟨x, hx⟩ : ∃ x, Z.getD k 0 = x := ⟨_, rfl⟩
              have HX : Hid (Z.getD k 0 = x) := hx
              rw [hx] at n1 n2 x1 x2 x3 x4 x5 hgk HT
              have HN1 : Hid (x ∉ Z.take k) := n1
              have HV : Hid (Vd F (stOf F.ng) (lnOf F.n F.ng) x) := x5
              have HQ0 : Hid (Shn F (lnOf F.n F.ng) x ∧ ¬ Drp ex (lnOf F.n F.ng) x) := ⟨x3, x4⟩
              have hx2 : Hid (stOf F.ng x = x) := x2
              clear n1 n2 n3 x2 x3 x4 x5 hx
              obtain ⟨en, hen⟩ : ∃ en, enOf F.n F.ng x = en := ⟨_, rfl⟩
              obtain ⟨j1, j2, j3⟩ := en_ln (ng := F.ng) x1
              rw [hen] at j1 j2 j3
              have HE1 : Hid (en = x + lnOf F.n F.ng x) := j1
              have HEN : Hid (enOf F.n F.ng x = en) := hen
              clear j1 hen
              have c10 := startOf_any F ex (stOf F.ng) (lnOf F.n F.ng) Gb (w.heap.size + 1) w.heap.size wr x hn (HCx.out wr HL.out.below).R HV.out
              go_wp2_with fail
              refine c10.mono ?_
              rintro e w4 ⟨rfl, hq⟩
              have HL4 : Hid (L3 F w2 Z k w4) := by
                obtain ⟨q, rfl⟩ := hq
                obtain ⟨h1, bf, h2, h3⟩ := HL.out
                exact ⟨⟨h1.os, h1.tape, h1.output, h1.size, h1.block⟩, bf, h2.drewN q, h3⟩
              clear hq c10 hgk
              have C4 := HCx.out w4 HL4.out.below
              have s1 := C4.S x x1
              have s2 := C4.E x x1
              rw [hx2.out] at s1 s2
              rw [HEN.out] at s2
              have s3 := cell_keep HL4.out.below.block (HG.out k hkl)
              rw [HX.out] at s3
              obtain ⟨bf, hbf, hbv⟩ := HL4.out.row
              have s4 := hbf.cell x1
              rw [hbv x x1 HN1.out] at s4
              have s5 := hbf.free x
              have Q11 : Hid (∀ n, Calls Try.prog 11 #[.pointer (some ⟨w.heap.size + 1, 0, none⟩), encG Gb (lnOf F.n F.ng) x, .int .i64 x, .int .i64 en] (w4.drewN n) fun e w'' => e = .returned (.bool true) ∧ ∃ m, w'' = w4.drewN m) := fun n =>
                (isGroup_any F ex (stOf F.ng) (lnOf F.n F.ng) Gb (w.heap.size + 1) w.heap.size (w4.drewN n) x en hn (C4.R.drewN n) HV.out HE1.out).mono fun _ _ ⟨h1, q, h2⟩ => ⟨h1, n + q, by rw [h2, drewN_two]⟩
              have Q9 : Hid (∀ n, Calls Try.prog 9 #[.slice p F.n cap, .int .i64 x, .int .i64 en] (w4.drewN n) fun e w'' => e = .returned (.bool true) ∧ ∃ m, w'' = w4.drewN m) := fun n =>
                (qual_any F ex p cap BI off (w4.drewN n) hn (C4.I.keep fun _ _ => rfl) (lnOf F.n F.ng) x en HE1.out j2 x1).mono fun _ _ ⟨z, h1, h2, h3⟩ => ⟨by rw [h1, h3.2 HQ0.out], n, h2⟩
              clear C4 hbf hbv
              go_wp2
              go_quiet ((first | (go_at_call 11; exact Q11.out _) | (go_at_call 9; exact Q9.out _)))
              have HL5 : Hid (L3 F w2 Z (k + 1) (World.setCell (w4.drewN nq) ⟨w2.heap.size, x, none⟩ (.bool true))) := by
                obtain ⟨h1, bf, h2, h3⟩ := HL4.out
                refine ⟨Below.setCell (w := w4.drewN nq) ⟨h1.os, h1.tape, h1.output, h1.size, h1.block⟩ (Nat.le_refl _) _, _, (h2.drewN nq).set x (.bool true), fun z hz hzn => ?_⟩
                have htk : Z.take (k + 1) = Z.take k ++ [x] := by
                  rw [← HX.out, show Z.getD k 0 = Z[k] by simp [hkl]]; simp
                rw [htk] at hzn
                simp only [List.mem_append, List.mem_singleton, not_or] at hzn
                rw [upd_other _ _ hzn.2]
                exact h3 z hz hzn.1
              clear HL4 HL Q11 Q9
              rcases HPR.out with ⟨rfl, rfl⟩ | ⟨hk0, rfl⟩
              · clear HPR
                go_wp2
                generalize World.setCell (w4.drewN nq) ⟨w2.heap.size, x, none⟩ (.bool true) = w5 at HL5 ⊢
                go_quiet (fail)
                go_wp2
                go_roundw
                case rel => exact ⟨1, x, by omega, by go_num, by go_num, (by
                  obtain ⟨h1, bf, h2, h3⟩ := HL5.out
                  exact ⟨⟨h1.os, h1.tape, h1.output, h1.size, h1.block⟩, bf, h2.drewN nq, h3⟩), .inr ⟨by omega, by rw [← HX.out]⟩⟩
                case measure => simp [intOf]; omega
              · obtain ⟨y, hy⟩ : ∃ y, Z.getD (k - 1) 0 = y := ⟨_, rfl⟩
                have hyt : y ∈ Z.take k := by
                  rw [← hy, List.mem_take_iff_getElem]
                  exact ⟨k - 1, by omega, by simp [show k - 1 < Z.length by omega]⟩
                have HTy := hide (HT.out y hyt)
                obtain ⟨y1, y2, y3, y4, y5⟩ := of_dl (HZ.out.1.subset (List.mem_of_mem_take hyt))
                obtain ⟨m1, m2, m3⟩ := en_ln (ng := F.ng) y1
                rw [hy]
                clear HPR hy hyt y3 y4 y5
                obtain ⟨en', hen'⟩ : ∃ en', enOf F.n F.ng y = en' := ⟨_, rfl⟩
                rw [hen'] at m1 m2 m3
                have HE2 : Hid (en' = y + lnOf F.n F.ng y ∧ enOf F.n F.ng y = en' ∧ stOf F.ng y = y) := ⟨m1, hen', y2⟩
                clear m1 hen' y2
                go_wp2
                generalize World.setCell (w4.drewN nq) ⟨w2.heap.size, x, none⟩ (.bool true) = w5 at HL5 ⊢
                have C5 := HCx.out w5 HL5.out.below
                have t1 := C5.E x x1
                rw [hx2.out, HEN.out] at t1
                have t2 := C5.E y y1
                rw [HE2.out.2.2, HE2.out.2.1] at t2
                have Q12 : Hid (∀ n, Calls Try.prog 12 #[.slice p F.n cap, .int .i64 y, .int .i64 en', .int .i64 x, .int .i64 en] (w5.drewN n) fun e w'' => e = .returned (.bool true) ∧ ∃ m, w'' = w5.drewN m) := fun n =>
                  (before_any F ex p cap BI off (w5.drewN n) HB.out (C5.I.keep fun _ _ => rfl) (lnOf F.n F.ng) y x en' en HE2.out.1 HE1.out m2 j2 y1 x1 HPth.out HTy.out).mono fun _ _ ⟨h1, q, h2⟩ => ⟨h1, n + q, by rw [h2, drewN_two]⟩
                clear C5
                go_quiet ((go_at_call 12; exact Q12.out _))
                go_wp2
                go_roundw
                case rel => exact ⟨k + 1, x, by omega, by go_num, by go_num, (by
                  obtain ⟨h1, bf, h2, h3⟩ := HL5.out
                  exact ⟨⟨h1.os, h1.tape, h1.output, h1.size, h1.block⟩, bf, h2.drewN nq, h3⟩), .inr ⟨by omega, by rw [← HX.out]; rfl⟩⟩
                case measure => simp [intOf]; omega
            · obtain rfl : k = Z.length := by omega
              have HP : Hid (Below w.heap.size w wr) := HC2.out.1.trans (HL.out.below.mono HC2.out.1.size)
              clear HL HPR
              go_wp2
              go_ret
              exact ⟨rfl, HP.out⟩
end Go.Proofs.Qxb6618735a

/- seat b6618735a: the argument, a slice of files, opened -/
import Derived.Test.Qxb6618735aBuild
import Derived.WalkKit
import Derived.ProofKit
import Derived.OpenShut
import Derived.Deep.Slices
namespace Go.Proofs.Qxb6618735a
open Go.ChangeShapes Go.WideShapes Go.ChangeAt Go.RowKit

theorem cells50 : Try.prog.cellsOf 50 = 6 := by kernel_rfl
theorem cells9 : Try.prog.cellsOf 9 = 1 := by kernel_rfl
theorem cells3 : Try.prog.cellsOf 3 = 1 := by kernel_rfl
theorem cells4 : Try.prog.cellsOf 4 = 1 := by kernel_rfl

structure OneF where
  path : ByteArray
  add : Int
  del : Int
  treat : ByteArray
  exc : Bool
  ng : Bool
instance : Inhabited OneF := ⟨⟨ByteArray.empty, 0, 0, ByteArray.empty, false, false⟩⟩

theorem list6 {α : Type} {cs : List α} (h : cs.length = 6) : ∃ c0 c1 c2 c3 c4 c5, cs = [c0, c1, c2, c3, c4, c5] := by
  match cs, h with
  | [c0, c1, c2, c3, c4, c5], _ => exact ⟨c0, c1, c2, c3, c4, c5, rfl⟩

theorem open_one {H : Type} {enc : TypeId × Value → H} {w : World} {base : Nat} {spare : Nat → Bool} {held : Bool} {n : Nat} {cs : List Value} {y : DataW H × List MemPlace} (hl : cs.length = 6)
    (h : DataW.trod enc Try.prog w base spare held n 50 cs = some y) : ∃ o : OneF, cs = [.string o.path, .int .i64 o.add, .int .i64 o.del, .string o.treat, .bool o.exc, .bool o.ng] := by
  obtain ⟨c0, c1, c2, c3, c4, c5, rfl⟩ := list6 hl
  obtain ⟨xs, n, _, _, _, hlen, hfl⟩ := DataW.trod_struct Try.underlying50 h
  have g : ∀ i, i < 6 → ∃ y, xs[i]? = some y := fun i hi => ⟨xs[i]'(by rw [hlen]; exact hi), by simp⟩
  obtain ⟨y0, g0⟩ := g 0 (by omega)
  obtain ⟨y1, g1⟩ := g 1 (by omega)
  obtain ⟨y2, g2⟩ := g 2 (by omega)
  obtain ⟨y3, g3⟩ := g 3 (by omega)
  obtain ⟨y4, g4⟩ := g 4 (by omega)
  obtain ⟨y5, g5⟩ := g 5 (by omega)
  have f0 := (hfl 0 _ rfl).trans g0
  have f1 := (hfl 1 _ rfl).trans g1
  have f2 := (hfl 2 _ rfl).trans g2
  have f3 := (hfl 3 _ rfl).trans g3
  have f4 := (hfl 4 _ rfl).trans g4
  have f5 := (hfl 5 _ rfl).trans g5
  obtain ⟨a0, e0, _, _⟩ := DataW.trod_string Try.underlying9 f0
  obtain ⟨a1, e1, _, _⟩ := DataW.trod_int Try.underlying3 f1
  obtain ⟨a2, e2, _, _⟩ := DataW.trod_int Try.underlying3 f2
  obtain ⟨a3, e3, _, _⟩ := DataW.trod_string Try.underlying9 f3
  obtain ⟨a4, e4, _⟩ := DataW.trod_bool Try.underlying4 f4
  obtain ⟨a5, e5, _⟩ := DataW.trod_bool Try.underlying4 f5
  simp [cells9] at e0 e3
  simp [cells3] at e1 e2
  simp [cells4] at e4 e5
  subst e0 e1 e2 e3 e4 e5
  exact ⟨⟨a0, a1, a2, a3, a4, a5⟩, rfl⟩

theorem open_files {H : Type} {enc : TypeId × Value → H} {w : World} {held : Bool} {a : Option Addr} {m d : Nat} {dd : DataW H} {p : List MemPlace}
    (h : DataW.Trod enc Try.prog w 0 (fun _ => true) held 22 (.slice a m d) dd p) :
    ∃ (F : Fs) (ex : Nat → Bool) (BI off : Nat), F.n = m ∧ Inp F ex a BI off w := by
  obtain ⟨fuel, hf⟩ := h
  rcases Deep.open_slice Try.underlying22 hf with ⟨hcs, _⟩ | ⟨x, len, cap, mm, nn, D, Pl, hcs, _, hl, _, hmm, _, hx⟩
  · simp [Value.cells] at hcs
    obtain ⟨rfl, rfl, rfl⟩ := hcs
    exact ⟨⟨0, fun _ => ByteArray.empty, fun _ => 0, fun _ => 0, fun _ => ByteArray.empty, fun _ => false⟩, fun _ => false, 0, 0, rfl, fun h => absurd h (by simp), fun i hi => absurd hi (by simp), fun i hi => absurd hi (by simp), fun i hi => absurd hi (by simp), fun i hi => absurd hi (by simp), fun i hi => absurd hi (by simp), fun i hi => absurd hi (by simp)⟩
  · simp [Value.cells] at hcs
    obtain ⟨rfl, rfl, rfl⟩ := hcs
    simp at hmm
    subst hmm
    rw [cells50] at hx
    obtain ⟨o, ho⟩ := Deep.choose_lt (α := OneF) (n := m) (p := fun i o => ∀ j, j < 6 → w.cell? ((x.add (i * 6)).add j) = [Value.string o.path, .int .i64 o.add, .int .i64 o.del, .string o.treat, .bool o.exc, .bool o.ng][j]?) (fun i hi => by
      obtain ⟨cs', h1, h2⟩ := hx i (by omega)
      obtain ⟨_, hlen, hcell⟩ := World.cells?_some h1
      obtain ⟨o, rfl⟩ := open_one hlen h2
      exact ⟨o, hcell⟩)
    obtain ⟨xb, xo, spot⟩ := x
    have hspot : 0 < m → spot = none := fun h0 => by
      have := ho 0 h0 0 (by omega)
      simp [Addr.add] at this
      exact World.cell?_spot this
    have hc : ∀ i, i < m → ∀ j, j < 6 → w.cell? ⟨xb, xo + i * 6 + j, none⟩ = [Value.string (o i).path, .int .i64 (o i).add, .int .i64 (o i).del, .string (o i).treat, .bool (o i).exc, .bool (o i).ng][j]? := fun i hi j hj => by
      have := ho i hi j hj
      rw [hspot (by omega), Addr.add_lit, Addr.add_lit] at this
      exact this
    exact ⟨⟨m, fun i => (o i).path, fun i => (o i).add, fun i => (o i).del, fun i => (o i).treat, fun i => (o i).ng⟩, fun i => (o i).exc, xb, xo, rfl, fun h0 => by rw [hspot h0], fun i hi => hc i hi 0 (by omega), fun i hi => hc i hi 1 (by omega), fun i hi => hc i hi 2 (by omega), fun i hi => hc i hi 3 (by omega), fun i hi => hc i hi 4 (by omega), fun i hi => hc i hi 5 (by omega)⟩
end Go.Proofs.Qxb6618735a

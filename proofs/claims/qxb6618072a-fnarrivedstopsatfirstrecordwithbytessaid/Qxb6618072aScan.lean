/- seat b6618072a: the contracts of the small struct functions of the arrived law: the bound on bytes, zzScan, zzRestKept -/
import Derived.Test.Qxb6618072aRows
import Derived.WalkKit
import Derived.WalkSpells
namespace Go.Proofs.Qxb6618072a
open Go.RowKit

/-- the cells of a ScanRest -/
abbrev restCells (s : ByteArray) (p en fi ki ne va : Int) (ot : Bool) : Array Value := #[.string s, .int .i64 p, .int .i64 en, .int .i64 fi, .int .i64 ki, .int .i64 ne, .int .i64 va, .bool ot]
/-- the cells of a ZZScan, and of a helloScan -/
abbrev scanCells (s : ByteArray) (nx lf p en fi ki ne va : Int) (ot : Bool) (vd : Int) : Array Value := #[.string s, .int .i64 nx, .int .i64 lf, .int .i64 p, .int .i64 en, .int .i64 fi, .int .i64 ki, .int .i64 ne, .int .i64 va, .bool ot, .int .i64 vd]

theorem bytes14_ok (s : ByteArray) (p en fi ki ne va : Int) (ot : Bool) (nx lf vd : Int) (a : Option Addr) (n c : Nat) (w : World) (h : s.size + n ≤ 1048576) :
    Calls Try.prog 14 #[.agg (restCells s p en fi ki ne va ot), .int .i64 nx, .int .i64 lf, .int .i64 vd, .slice a n c] w fun e w' => e = .returned (.bool true) ∧ w' = w.alloc (.cells (restCells s p en fi ki ne va ot) 33) := by
  go_enter Try.func14, Try.ntmps14
  go_wp2
  go_ret
  exact ⟨rfl, rfl⟩

theorem bytes14_no (s : ByteArray) (p en fi ki ne va : Int) (ot : Bool) (nx lf vd : Int) (a : Option Addr) (n c : Nat) (w : World) (h : 1048576 < s.size + n) (hs : s.size ≤ 9223372036854775807) (hn : n ≤ 9223372036854775807) :
    Calls Try.prog 14 #[.agg (restCells s p en fi ki ne va ot), .int .i64 nx, .int .i64 lf, .int .i64 vd, .slice a n c] w fun e w' => e = .returned (.bool false) ∧ w' = w.alloc (.cells (restCells s p en fi ki ne va ot) 33) := by
  by_cases h1 : 1048576 < s.size
  · go_enter Try.func14, Try.ntmps14
    go_wp2
    go_ret
    exact ⟨rfl, rfl⟩
  by_cases h2 : 1048576 < n
  · go_enter Try.func14, Try.ntmps14
    go_wp2
    go_ret
    exact ⟨rfl, rfl⟩
  go_enter Try.func14, Try.ntmps14
  go_wp2
  go_ret
  exact ⟨rfl, rfl⟩

theorem scan_any (s : ByteArray) (p en fi ki ne va : Int) (ot : Bool) (nx lf vd : Int) (w : World) :
    Calls Try.prog 17 #[.agg (restCells s p en fi ki ne va ot), .int .i64 nx, .int .i64 lf, .int .i64 vd] w fun e w' => e = .returned (.agg (scanCells s nx lf p en fi ki ne va ot vd)) ∧ w' = (w.alloc (.cells (restCells s p en fi ki ne va ot) 33)).alloc (.cells (scanCells s nx lf p en fi ki ne va ot vd) 37) := by
  go_enter Try.func17, Try.ntmps17
  go_wp2
  exact bodyPost_ret (v := .agg (scanCells s nx lf p en fi ki ne va ot vd)) (by simp [results, Try.results17, go_sem]) rfl ⟨rfl, rfl⟩

theorem kept_any (s : ByteArray) (p en fi ki ne va : Int) (ot : Bool) (nx lf vd : Int) (w : World) :
    Calls Try.prog 18 #[.agg (restCells s p en fi ki ne va ot), .agg (scanCells s nx lf p en fi ki ne va ot vd)] w fun e w' => e = .returned (.bool true) ∧ w' = (w.alloc (.cells (restCells s p en fi ki ne va ot) 33)).alloc (.cells (scanCells s nx lf p en fi ki ne va ot vd) 37) := by
  go_enter Try.func18, Try.ntmps18
  go_wp2
  go_ret
  exact ⟨rfl, rfl⟩
end Go.Proofs.Qxb6618072a

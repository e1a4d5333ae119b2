import Derived.Test.Qxb6600729aModsRows
import Derived.WalkKit
import Derived.WalkLawsBesides
import Derived.WalkSpells
import Derived.Deep.QuietTactic
import Derived.BigQuiet
import Derived.Deep.RegionHeld3
import Derived.Deep.AppendLies
import Derived.Deep.MidRow
namespace Go.Proofs.Qxb6600729aMods
open Go.RowKit

theorem Trym.info56 : (Trym.prog.info? 56).map (fun i => (i.zero, i.size, i.bytes)) = some (some (.agg #[.string ⟨#[]⟩, .slice none 0 0, .int .i64 0, .int .u64 0, .int .i64 0]), 5, 64) := by kernel_rfl
theorem Trym.info47 : (Trym.prog.info? 47).map (fun i => (i.zero, i.size, i.bytes)) = some (some (.agg #[.slice none 0 0, .int .i64 0]), 2, 32) := by kernel_rfl
theorem Trym.info34 : (Trym.prog.info? 34).map (fun i => (i.size)) = some (6) := by kernel_rfl

/-- ZZNewInbox -/
theorem new11 (w : World) : Calls Trym.prog 11 #[] w fun e w' => e = .returned (.pointer (some ⟨w.heap.size, 0, none⟩)) ∧ w' = w.alloc (.cells #[.slice none 0 0, .int .i64 0] 47) := by
  go_enter Trym.func11, Trym.ntmps11
  go_wp2
  go_ret
  exact ⟨rfl, rfl⟩

theorem isPush12 (c : Int) (h0 : 0 ≤ c) (w : World) : Calls Trym.prog 12 #[.int .u8 c] w fun e w' => e = .returned (.bool (c % 3 != 0)) ∧ w' = w := by
  go_enter Trym.func12, Trym.ntmps12
  go_wp2
  go_ret
  exact ⟨rfl, rfl⟩

theorem len28 (B : Nat) (ao : Option Addr) (n cap : Nat) (h : Nat) (w : World) (hI : w.cell? ⟨B, 0, none⟩ = some (.slice ao n cap)) (hH : w.cell? ⟨B, 1, none⟩ = some (.int .i64 h)) (hn : n ≤ 1048576) (hhn : h ≤ n) :
    Calls Trym.prog 28 #[.pointer (some ⟨B, 0, none⟩)] w fun e w' => e = .returned (.int .i64 ((n - h : Nat) : Int)) ∧ ∃ q, w' = w.drewN q := by
  go_enter Trym.func28, Trym.ntmps28
  go_wp2
  go_quiet (fail)
  go_wp2
  go_ret
  exact ⟨congrArg (fun x : Int => Ending.returned (.int .i64 x)) (by show (n : Int) - h = _; omega), _, rfl⟩

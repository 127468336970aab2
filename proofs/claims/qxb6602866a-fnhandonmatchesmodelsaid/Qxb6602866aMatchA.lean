/-
  FnHandOnMatchesModel (function 5): the ways that return true at once.
-/
import Derived.Test.Qxb6602866aOwn
import Derived.Test.Qxb6602866aPlain
namespace Go.Proofs.Qxb6602866a
open Go.RowKit
set_option linter.unusedSimpArgs false
set_option linter.unusedVariables false

set_option maxRecDepth 100000 in
set_option maxHeartbeats 2000000 in
theorem match_early (id : Int) (a1 : Option Addr) (len1 cap1 : Nat) (st : Int) (a3 : Option Addr) (len3 cap3 : Nat) (a4 : Option Addr) (len4 cap4 : Nat) (gr c0 c1 c2 c3 c4 : Int) (w : World)
    (m1 : len1 ≤ maxLen) (m3 : len3 ≤ maxLen) (m4 : len4 ≤ maxLen)
    (hbad : 4096 < len1 ∨ 4096 < len3 ∨ 4096 < len4 ∨ id < 1 ∨ (len1 : Int) < id ∨ len3 < len1) :
    Calls Try.prog 5 #[.int .i64 id, .slice a1 len1 cap1, .int .u8 st, .slice a3 len3 cap3, .slice a4 len4 cap4, .int .u64 gr, .int .u64 c0, .int .u64 c1, .int .u64 c2, .int .u64 c3, .int .u64 c4] w fun e w' => e = .returned (.bool true) ∧ w' = w := by
  unfold maxLen at m1 m3 m4
  rcases hbad with h | h | h | h | h | h
  all_goals
    go_enter Try.func5, Try.ntmps5
    go_wp2
    all_goals (go_ret; exact ⟨rfl, rfl⟩)
end Go.Proofs.Qxb6602866a

/-
  The contract of outstanding (function 26).
-/
import Derived.Test.Qxb6602866aProg
import Derived.Test.Qxb6602866aModel
import Derived.Deep.QuietTactic
import Derived.BigQuiet
namespace Go.Proofs.Qxb6602866a
open Go.RowKit
set_option linter.unusedSimpArgs false
set_option linter.unusedVariables false

set_option maxHeartbeats 400000 in
theorem outst (N T R L n l j : Nat) (r x : Int) (w : World)
    (cR : w.cell? ⟨N, 1, none⟩ = some (.slice (some ⟨R, 0, none⟩) n n)) (cT : w.cell? ⟨N, 3, none⟩ = some (.pointer (some ⟨T, 0, none⟩)))
    (cL : w.cell? ⟨T, 0, none⟩ = some (.slice (some ⟨L, 0, none⟩) l l)) (hj : j < n) (hl : j < l) (hn : n ≤ 4096) (hl' : l ≤ 4096)
    (cr : w.cell? ⟨R, j, none⟩ = some (.int .u64 r)) (cx : w.cell? ⟨L, j, none⟩ = some (.int .u64 x)) :
    Calls Try.prog 26 #[.pointer (some ⟨N, 0, none⟩), .int .i64 ((j : Int) + 1)] w fun e w' => e = .returned (.bool (duB r x)) ∧ ∃ q, w' = w.drewN q := by
  have h1 : (j : Int) < (n : Int) := by omega
  have h2 : (j : Int) < (l : Int) := by omega
  go_enter Try.func26, Try.ntmps26
  go_wp2
  go_quiet (fail)
  go_wp2
  go_ret
  exact ⟨rfl, _, rfl⟩
end Go.Proofs.Qxb6602866a

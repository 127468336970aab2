/-
  The contract of pass (function 29).
-/
import Derived.Test.Qxb6602866aProg
import Derived.Test.Qxb6602866aKitH
import Derived.BigRegion
namespace Go.Proofs.Qxb6602866a
open Go.RowKit
set_option linter.unusedSimpArgs false
set_option linter.unusedVariables false

set_option maxHeartbeats 400000 in
theorem pass_any (N T : Nat) (id st to c0 c1 c2 c3 c4 : Int) (rv : Value) (w : World)
    (hB : Blk w N 62 (nd id rv st (.pointer (some ⟨T, 0, none⟩)) c0 c1 c2 c3 c4)) :
    Calls Try.prog 29 #[.pointer (some ⟨N, 0, none⟩), .int .i64 to] w fun e w' => e = .returned (.agg #[.int .u8 2, .int .i64 id, .int .i64 to, .int .u64 0, .pointer (some ⟨T, 0, none⟩)]) ∧
      Blk w' N 62 (nd id rv st (.pointer none) c0 c1 (IntKind.u64.wrap (c2 + 1)) c3 c4) ∧ But (fun k => k = N) w w' := by
  have hN : N < w.heap.size := hB.lt
  have cI : w.cell? ⟨N, 0, none⟩ = some (.int .i64 id) := hB.cell 0
  have cT : w.cell? ⟨N, 3, none⟩ = some (.pointer (some ⟨T, 0, none⟩)) := hB.cell 3
  have c6 : w.cell? ⟨N, 6, none⟩ = some (.int .u64 c2) := hB.cell 6
  have f3 := hB.free 3
  have f6 := hB.free 6
  have R : Hid (∀ o1 o2, Blk ((((w.setCell ⟨N, 3, none⟩ (.pointer none)).setCell ⟨N, 6, none⟩ (.int .u64 (IntKind.u64.wrap (c2 + 1)))).alloc o1).alloc o2).drew N 62 (nd id rv st (.pointer none) c0 c1 (IntKind.u64.wrap (c2 + 1)) c3 c4) ∧
      But (fun k => k = N) w ((((w.setCell ⟨N, 3, none⟩ (.pointer none)).setCell ⟨N, 6, none⟩ (.int .u64 (IntKind.u64.wrap (c2 + 1)))).alloc o1).alloc o2).drew) := fun o1 o2 =>
    ⟨((((hB.set 3 _).set 6 _).alloc o1).alloc o2).drew, (((((But.refl _ w).setCell (by exact rfl) _).setCell (by exact rfl) _).alloc o1).alloc o2).drew⟩
  clear hB
  go_enter Try.func29, Try.ntmps29
  go_wp2
  go_region
  go_wp2
  exact bodyPost_ret (v := .agg #[.int .u8 2, .int .i64 id, .int .i64 to, .int .u64 0, .pointer (some ⟨T, 0, none⟩)]) (by simp [results, Try.results29, go_sem]) rfl ⟨rfl, R.out _ _⟩
end Go.Proofs.Qxb6602866a

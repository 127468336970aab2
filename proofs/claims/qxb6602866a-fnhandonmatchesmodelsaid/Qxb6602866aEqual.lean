/-
  coreB1EqualU64 (function 19) and coreB1EqualInts (22) at rows that hold the same; ZZNodeCounts (21).
-/
import Derived.Test.Qxb6602866aProg
import Derived.Test.Qxb6602866aKitH
import Derived.Deep.QuietTactic
import Derived.BigQuiet
namespace Go.Proofs.Qxb6602866a
open Go.RowKit
set_option linter.unusedSimpArgs false
set_option linter.unusedVariables false

set_option maxHeartbeats 1000000 in
theorem equalU64_zero (a b : Option Addr) (c d : Nat) (w : World) : Calls Try.prog 19 #[.slice a 0 c, .slice b 0 d] w fun e w' => e = .returned (.bool true) ∧ ∃ q, w' = w.drewN q := by
  go_enter Try.func19, Try.ntmps19
  go_wp2
  refine wp_loop_rounds 1 ?_
  rw [rounds_succ]
  go_wp2
  go_ret
  exact ⟨rfl, 0, rfl⟩

set_option maxHeartbeats 1000000 in
theorem equalU64_same (g1 o1 g2 o2 n c d : Nat) (xs : List Int) (w : World) (hn : n ≤ 8192)
    (h1 : ∀ j, j < n → w.cell? ⟨g1, o1 + j, none⟩ = some (.int .u64 (xs.getD j 0))) (h2 : ∀ j, j < n → w.cell? ⟨g2, o2 + j, none⟩ = some (.int .u64 (xs.getD j 0))) :
    Calls Try.prog 19 #[.slice (some ⟨g1, o1, none⟩) n c, .slice (some ⟨g2, o2, none⟩) n d] w fun e w' => e = .returned (.bool true) ∧ ∃ q, w' = w.drewN q := by
  have H1 : Hid (∀ j, j < n → w.cell? ⟨g1, o1 + j, none⟩ = some (.int .u64 (xs.getD j 0))) := h1
  have H2 : Hid (∀ j, j < n → w.cell? ⟨g2, o2 + j, none⟩ = some (.int .u64 (xs.getD j 0))) := h2
  clear h1 h2
  go_enter Try.func19, Try.ntmps19
  go_wp2
  go_loopw [5] (fun t wr => ∃ k : Nat, k ≤ n ∧ t = .int .i64 k ∧ ∃ q, wr = w.drewN q) (fun t _ => n - (intOf t).toNat)
  case atStart => exact ⟨0, Nat.zero_le _, rfl, 0, rfl⟩
  case round =>
    obtain ⟨k, hk, rfl, q, rfl⟩ := hrel
    by_cases hlt : k < n
    · have hk1 : (k : Int) < (n : Int) := by omega
      obtain ⟨x, c1, c2⟩ : ∃ x, w.cell? ⟨g1, o1 + k, none⟩ = some (.int .u64 x) ∧ w.cell? ⟨g2, o2 + k, none⟩ = some (.int .u64 x) := ⟨_, H1.out k hlt, H2.out k hlt⟩
      go_wp2
      go_quiet (fail)
      go_wp2
      go_roundw
      case rel => first | exact ⟨k + 1, by omega, by go_num, _, rfl⟩ | ((repeat apply Exists.intro); exact ⟨⟨k + 1, by omega, by go_num, _, rfl⟩, rfl⟩)
      case measure => simp [intOf]; omega
    · go_wp2
      go_ret
      exact ⟨rfl, _, rfl⟩

set_option maxHeartbeats 1000000 in
theorem equalInts_zero (a b : Option Addr) (c d : Nat) (w : World) : Calls Try.prog 22 #[.slice a 0 c, .slice b 0 d] w fun e w' => e = .returned (.bool true) ∧ ∃ q, w' = w.drewN q := by
  go_enter Try.func22, Try.ntmps22
  go_wp2
  refine wp_loop_rounds 1 ?_
  rw [rounds_succ]
  go_wp2
  go_ret
  exact ⟨rfl, 0, rfl⟩

set_option maxHeartbeats 1000000 in
theorem equalInts_same (g1 o1 g2 o2 n c d : Nat) (xs : List Int) (w : World) (hn : n ≤ 8192)
    (h1 : ∀ j, j < n → w.cell? ⟨g1, o1 + j, none⟩ = some (.int .i64 (xs.getD j 0))) (h2 : ∀ j, j < n → w.cell? ⟨g2, o2 + j, none⟩ = some (.int .i64 (xs.getD j 0))) :
    Calls Try.prog 22 #[.slice (some ⟨g1, o1, none⟩) n c, .slice (some ⟨g2, o2, none⟩) n d] w fun e w' => e = .returned (.bool true) ∧ ∃ q, w' = w.drewN q := by
  have H1 : Hid (∀ j, j < n → w.cell? ⟨g1, o1 + j, none⟩ = some (.int .i64 (xs.getD j 0))) := h1
  have H2 : Hid (∀ j, j < n → w.cell? ⟨g2, o2 + j, none⟩ = some (.int .i64 (xs.getD j 0))) := h2
  clear h1 h2
  go_enter Try.func22, Try.ntmps22
  go_wp2
  go_loopw [5] (fun t wr => ∃ k : Nat, k ≤ n ∧ t = .int .i64 k ∧ ∃ q, wr = w.drewN q) (fun t _ => n - (intOf t).toNat)
  case atStart => exact ⟨0, Nat.zero_le _, rfl, 0, rfl⟩
  case round =>
    obtain ⟨k, hk, rfl, q, rfl⟩ := hrel
    by_cases hlt : k < n
    · have hk1 : (k : Int) < (n : Int) := by omega
      obtain ⟨x, c1, c2⟩ : ∃ x, w.cell? ⟨g1, o1 + k, none⟩ = some (.int .i64 x) ∧ w.cell? ⟨g2, o2 + k, none⟩ = some (.int .i64 x) := ⟨_, H1.out k hlt, H2.out k hlt⟩
      go_wp2
      go_quiet (fail)
      go_wp2
      go_roundw
      case rel => first | exact ⟨k + 1, by omega, by go_num, _, rfl⟩ | ((repeat apply Exists.intro); exact ⟨⟨k + 1, by omega, by go_num, _, rfl⟩, rfl⟩)
      case measure => simp [intOf]; omega
    · go_wp2
      go_ret
      exact ⟨rfl, _, rfl⟩

set_option maxHeartbeats 1000000 in
theorem counts_any (N : Nat) (id st c0 c1 c2 c3 c4 : Int) (rv tv : Value) (w : World) (hN : Blk w N 62 (nd id rv st tv c0 c1 c2 c3 c4)) :
    Calls Try.prog 21 #[.pointer (some ⟨N, 0, none⟩)] w fun e w' => e = .returned (.agg #[.int .u64 c0, .int .u64 c1, .int .u64 c2, .int .u64 c3, .int .u64 c4]) ∧ w' = w.alloc (Obj.cells #[.int .u64 c0, .int .u64 c1, .int .u64 c2, .int .u64 c3, .int .u64 c4] 52) := by
  have k4 : w.cell? ⟨N, 4, none⟩ = some (.int .u64 c0) := hN.cell 4
  have k5 : w.cell? ⟨N, 5, none⟩ = some (.int .u64 c1) := hN.cell 5
  have k6 : w.cell? ⟨N, 6, none⟩ = some (.int .u64 c2) := hN.cell 6
  have k7 : w.cell? ⟨N, 7, none⟩ = some (.int .u64 c3) := hN.cell 7
  have k8 : w.cell? ⟨N, 8, none⟩ = some (.int .u64 c4) := hN.cell 8
  have hs := hN.lt
  clear hN
  go_enter Try.func21, Try.ntmps21
  go_wp2
  exact bodyPost_ret (v := .agg #[.int .u64 c0, .int .u64 c1, .int .u64 c2, .int .u64 c3, .int .u64 c4]) (by simp [results, Try.results21, go_sem]) rfl ⟨rfl, rfl⟩
end Go.Proofs.Qxb6602866a

/-
  Counting a message (functions 7 and 24), and the plain law of the tallies.
-/
import Derived.Test.Qxb6602866aProg
import Derived.Test.Qxb6602866aKit
namespace Go.Proofs.Qxb6602866a
open Go.RowKit
set_option linter.unusedSimpArgs false
set_option linter.unusedVariables false

/-- One if the kind is v. -/
def inc (v k : Int) : Int := if k = v then 1 else 0
/-- How many of the list are v. -/
def cnt (v : Int) (xs : List Int) : Int := (xs.count v : Int)

theorem cnt_nil (v : Int) : cnt v [] = 0 := by simp [cnt]
theorem cnt_bd (v : Int) (xs : List Int) : 0 ≤ cnt v xs ∧ cnt v xs ≤ xs.length := by
  unfold cnt; have := List.count_le_length (a := v) (l := xs); omega
theorem cnt_take (v : Int) (xs : List Int) (k : Nat) (h : k < xs.length) : cnt v (xs.take (k + 1)) = cnt v (xs.take k) + inc v (xs.getD k 0) := by
  unfold cnt inc
  have e : xs.getD k 0 = xs[k] := by simp [List.getD_eq_getElem?_getD, List.getElem?_eq_getElem h]
  rw [List.take_succ_eq_append_getElem h, List.count_append, List.count_singleton, e]
  by_cases c : xs[k] = v <;> simp [c]
theorem cnt_drop (v : Int) (xs : List Int) (k : Nat) (h : k < xs.length) : cnt v (xs.drop k) = cnt v (xs.drop (k + 1)) + inc v (xs.getD k 0) := by
  unfold cnt inc
  have e : xs.getD k 0 = xs[k] := by simp [List.getD_eq_getElem?_getD, List.getElem?_eq_getElem h]
  rw [List.drop_eq_getElem_cons h, List.count_cons, e]
  by_cases c : xs[k] = v <;> simp [c]

set_option maxHeartbeats 400000 in
theorem zzcount (g : Nat) (r t k : Int) (w : World) (h : Blk w g 24 [.int .u64 r, .int .u64 t]) (hr : 0 ≤ r) (hr' : r ≤ 1048576) (ht : 0 ≤ t) (ht' : t ≤ 1048576) :
    Calls Try.prog 7 #[.pointer (some ⟨g, 0, none⟩), .int .u8 k] w fun e w' => e = .returned (.tuple #[]) ∧ Blk w' g 24 [.int .u64 (r + inc 1 k), .int .u64 (t + inc 2 k)] ∧ But (fun j => j = g) w w' := by
  have c0 : w.cell? ⟨g, 0, none⟩ = some (.int .u64 r) := h.cell 0
  have c1 : w.cell? ⟨g, 1, none⟩ = some (.int .u64 t) := h.cell 1
  have f0 := h.free 0
  have f1 := h.free 1
  by_cases h1 : k = 1
  · subst h1
    have R : Hid (Blk (w.setCell ⟨g, 0, none⟩ (.int .u64 (r + 1))) g 24 [.int .u64 (r + inc 1 1), .int .u64 (t + inc 2 1)] ∧ But (fun j => j = g) w (w.setCell ⟨g, 0, none⟩ (.int .u64 (r + 1)))) :=
      ⟨by simpa [inc] using h.set 0 (.int .u64 (r + 1)), (But.refl _ _).setCell (by exact rfl) _⟩
    clear h
    go_enter Try.func7, Try.ntmps7
    go_wp2
    go_end0
    go_wp2
    go_end0
    exact ⟨rfl, R.out⟩
  · have e1 : (k == 1) = false := by simpa using h1
    by_cases h2 : k = 2
    · subst h2
      have R : Hid (Blk (w.setCell ⟨g, 1, none⟩ (.int .u64 (t + 1))) g 24 [.int .u64 (r + inc 1 2), .int .u64 (t + inc 2 2)] ∧ But (fun j => j = g) w (w.setCell ⟨g, 1, none⟩ (.int .u64 (t + 1)))) :=
        ⟨by simpa [inc] using h.set 1 (.int .u64 (t + 1)), (But.refl _ _).setCell (by exact rfl) _⟩
      clear h
      go_enter Try.func7, Try.ntmps7
      go_wp2
      go_end0
      go_wp2
      go_end0
      exact ⟨rfl, R.out⟩
    · have e2 : (k == 2) = false := by simpa using h2
      have R : Hid (Blk w g 24 [.int .u64 (r + inc 1 k), .int .u64 (t + inc 2 k)] ∧ But (fun j => j = g) w w) :=
        ⟨by simpa [inc, h1, h2] using h, But.refl _ _⟩
      clear h
      go_enter Try.func7, Try.ntmps7
      go_wp2
      go_end0
      go_wp2
      go_end0
      exact ⟨rfl, R.out⟩
end Go.Proofs.Qxb6602866a

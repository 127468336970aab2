/-
  A made row of bools: all false.
-/
import Derived.Test.Qxb6602866aPlain
namespace Go.Proofs.Qxb6602866a
open Go.RowKit
set_option linter.unusedSimpArgs false
set_option linter.unusedVariables false

theorem made_blk {w1 : World} {base b n : Nat} (h : w1.ownsRow base 4 1 (.slice (some ⟨b, 0, none⟩) n n) n (madeCells (Value.bool false).cells (n * 1)).toList) : Blk w1 b 4 (bl (fun _ => false) n) := by
  obtain ⟨hl, h | ⟨g, cp, cur, hv, _, hh, _, _, hsz, ht⟩⟩ := h
  · simp at h
  · simp at hv
    obtain ⟨rfl, rfl⟩ := hv
    unfold Blk
    rw [hh]
    congr 2
    apply Array.toList_inj.1
    rw [List.take_of_length_le (by simp at hsz ⊢; omega)] at ht
    rw [ht]
    apply List.ext_getElem?
    intro j
    by_cases hj : j < n
    · rw [bl_at _ _ _ hj]; simp [madeCells, Value.cells, hj, Nat.mod_one]
    · rw [List.getElem?_eq_none (by simp [madeCells]; omega), List.getElem?_eq_none (by rw [bl_len]; omega)]

/-- A bool is marked. -/
theorem Blk.mark {w : World} {g N X : Nat} {q : List Int} (h : Blk w g 4 (bl (fun j => inB q (j : Int)) N)) : Blk (w.setCell ⟨g, X, none⟩ (.bool true)) g 4 (bl (fun j => inB (q ++ [(X : Int)]) (j : Int)) N) := by
  have := h.set X (.bool true)
  rw [bl_set _ (fun j => inB (q ++ [(X : Int)]) (j : Int)) _ _ _ (fun y _ => by
    rw [inB_snoc]
    by_cases e : y = X
    · subst e; simp
    · rw [if_neg (by omega), if_neg e])] at this
  exact this
theorem bl_nil (N : Nat) : bl (fun j => inB [] (j : Int)) N = bl (fun _ => false) N := by
  unfold bl; congr 1
theorem take_snoc' {q : List Int} {k : Nat} (h : k < q.length) : q.take (k + 1) = q.take k ++ [q.getD k 0] := by
  rw [List.take_succ_eq_append_getElem h]
  simp [List.getD_eq_getElem?_getD, List.getElem?_eq_getElem h]
end Go.Proofs.Qxb6602866a

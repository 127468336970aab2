/-
  Plain laws of the release rule: no Go in sight.
-/
import Derived.Test.Qxb6602866aModel
namespace Go.Proofs.Qxb6602866a
set_option linter.unusedSimpArgs false
set_option linter.unusedVariables false

theorem inB_iff {q : List Int} {x : Int} : inB q x = true ↔ x ∈ q := by unfold inB; simp
theorem inB_false {q : List Int} {x : Int} : inB q x = false ↔ x ∉ q := by unfold inB; simp
theorem joinB_iff {rn ln : List Int} {i : Nat} {q : List Int} {k : Nat} : joinB rn ln i q k = true ↔ k ≠ i ∧ duB (rn.getD k 0) (ln.getD k 0) = true ∧ ((k : Int) + 1) ∉ q := by
  unfold joinB
  rw [Bool.and_eq_true, Bool.and_eq_true, Bool.not_eq_true', Bool.not_eq_true', inB_false]
  simp

/-- The old queue stands at the new one's head. -/
theorem fullQ_pre (rn ln : List Int) (i : Nat) (q : List Int) (k : Nat) : ∃ ext, fullQ rn ln i q k = q ++ ext := by
  induction k with
  | zero => exact ⟨[], by simp [fullQ]⟩
  | succ k ih =>
    obtain ⟨ext, he⟩ := ih
    rw [fullQ]
    split
    · exact ⟨ext ++ [(k : Int) + 1], by rw [he, List.append_assoc]⟩
    · exact ⟨ext, he⟩

/-- Who is in the new queue: who was in the old one, and who waits. -/
theorem fullQ_mem (rn ln : List Int) (i : Nat) (q : List Int) (k : Nat) (y : Int) : y ∈ fullQ rn ln i q k ↔ y ∈ q ∨ ∃ j, j < k ∧ y = (j : Int) + 1 ∧ j ≠ i ∧ duB (rn.getD j 0) (ln.getD j 0) = true := by
  induction k with
  | zero => simp [fullQ]
  | succ k ih =>
    rw [fullQ]
    split
    · rename_i h
      rw [joinB_iff] at h
      rw [List.mem_append, ih, List.mem_singleton]
      constructor
      · rintro ((h1 | ⟨j, a, b, c⟩) | rfl)
        · exact Or.inl h1
        · exact Or.inr ⟨j, by omega, b, c⟩
        · exact Or.inr ⟨k, by omega, rfl, h.1, h.2.1⟩
      · rintro (h1 | ⟨j, a, b, c⟩)
        · exact Or.inl (Or.inl h1)
        · by_cases e : j = k
          · subst e; exact Or.inr b
          · exact Or.inl (Or.inr ⟨j, by omega, b, c⟩)
    · rename_i h
      rw [joinB_iff] at h
      rw [ih]
      constructor
      · rintro (h1 | ⟨j, a, b, c⟩)
        · exact Or.inl h1
        · exact Or.inr ⟨j, by omega, b, c⟩
      · rintro (h1 | ⟨j, a, b, c, d⟩)
        · exact Or.inl h1
        · by_cases e : j = k
          · subst e
            have hm : ((j : Int) + 1) ∈ fullQ rn ln i q j := by
              by_cases hin : ((j : Int) + 1) ∈ fullQ rn ln i q j
              · exact hin
              · exact absurd ⟨c, d, hin⟩ h
            rw [← b] at hm
            exact ih.1 hm
          · exact Or.inr ⟨j, by omega, b, c, d⟩

theorem fullQ_nodup (rn ln : List Int) (i : Nat) (q : List Int) (k : Nat) (h : q.Nodup) : (fullQ rn ln i q k).Nodup := by
  induction k with
  | zero => simpa [fullQ] using h
  | succ k ih =>
    rw [fullQ]
    split
    · rename_i h2
      rw [joinB_iff] at h2
      rw [List.nodup_append]
      refine ⟨ih, by simp, ?_⟩
      intro a ha b hb
      rw [List.mem_singleton] at hb
      subst hb
      intro e
      subst e
      exact h2.2.2 ha
    · exact ih

/-- A queue of distinct other nodes' ids. -/
def Good (n i : Nat) (q : List Int) : Prop := (∀ y ∈ q, 1 ≤ y ∧ y ≤ (n : Int) ∧ y ≠ (i : Int) + 1) ∧ q.Nodup

theorem fullQ_good (rn ln : List Int) (i : Nat) (q : List Int) (n : Nat) (h : Good n i q) : Good n i (fullQ rn ln i q n) := by
  refine ⟨fun y hy => ?_, fullQ_nodup _ _ _ _ _ h.2⟩
  rw [fullQ_mem] at hy
  rcases hy with hy | ⟨j, a, b, c, _⟩
  · exact h.1 y hy
  · exact ⟨by omega, by omega, by omega⟩

theorem good_snoc {n i : Nat} {q : List Int} {x : Int} (h : Good n i q) (h1 : 1 ≤ x) (h2 : x ≤ (n : Int)) (h3 : x ≠ (i : Int) + 1) (h4 : inB q x = false) : Good n i (q ++ [x]) := by
  rw [inB_false] at h4
  refine ⟨fun y hy => ?_, ?_⟩
  · rw [List.mem_append, List.mem_singleton] at hy
    rcases hy with hy | rfl
    · exact h.1 y hy
    · exact ⟨h1, h2, h3⟩
  · rw [List.nodup_append]
    refine ⟨h.2, by simp, ?_⟩
    intro a ha b hb e
    rw [List.mem_singleton] at hb
    subst hb; subst e
    exact h4 ha
theorem good_nil (n i : Nat) : Good n i [] := ⟨by simp, by simp⟩

theorem Value.bool_inj' {a b : Bool} (h : a = b) : Value.bool a = Value.bool b := by rw [h]

/-- A row of bools. -/
def bl (f : Nat → Bool) (N : Nat) : List Value := (List.range N).map fun j => .bool (f j)
theorem bl_len (f : Nat → Bool) (N : Nat) : (bl f N).length = N := by simp [bl]
theorem bl_at (f : Nat → Bool) (N j : Nat) (h : j < N) : (bl f N)[j]? = some (.bool (f j)) := by simp [bl, h]
theorem bl_set (f g : Nat → Bool) (N j : Nat) (b : Bool) (h : ∀ x, x < N → g x = if x = j then b else f x) : (bl f N).set j (.bool b) = bl g N := by
  apply List.ext_getElem?
  intro x
  by_cases hx : x < N
  · rw [bl_at g N x hx, h x hx]
    by_cases e : x = j
    · subst e; rw [List.getElem?_set_self (by rw [bl_len]; exact hx)]; simp
    · rw [List.getElem?_set_ne (by omega), bl_at f N x hx]; simp [e]
  · rw [List.getElem?_eq_none (by rw [List.length_set, bl_len]; omega), List.getElem?_eq_none (by rw [bl_len]; omega)]
theorem bl_zero (N : Nat) : bl (fun _ => false) N = List.replicate N (.bool false) := by
  apply List.ext_getElem?
  intro x
  by_cases hx : x < N
  · rw [bl_at _ N x hx]; simp [List.getElem?_replicate, hx]
  · rw [List.getElem?_eq_none (by rw [bl_len]; omega)]; simp [List.getElem?_replicate, hx]

theorem inB_snoc (q : List Int) (x : Int) (j : Nat) : inB (q ++ [x]) (j : Int) = if (j : Int) = x then true else inB q j := by
  unfold inB
  by_cases e : (j : Int) = x <;> simp [e]
end Go.Proofs.Qxb6602866a

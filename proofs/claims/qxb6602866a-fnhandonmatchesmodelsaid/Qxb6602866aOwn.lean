/-
  Clones of slices that are the call's own; what came in, seen from a later world.
-/
import Derived.Test.Qxb6602866aClones
import Derived.Test.Qxb6602866aCont
namespace Go.Proofs.Qxb6602866a
open Go.RowKit
set_option linter.unusedSimpArgs false
set_option linter.unusedVariables false

theorem cloneU64_own (v : Value) (xs : List Int) (base : Nat) (w : World) (h : Own .u64 22 base w v xs) (hl : xs.length ≤ 1048576) :
    Calls Try.prog 12 #[v] w fun e w' => ∃ v', e = .returned v' ∧ Own .u64 22 w.heap.size w' v' xs ∧ Below w.heap.size w w' := by
  rcases h with ⟨rfl, rfl⟩ | ⟨g, rfl, _, hb⟩
  · exact (cloneU64_nil 0 0 w).mono fun e w' ⟨he, hw⟩ => ⟨_, he, Or.inl ⟨rfl, rfl⟩, hw ▸ Below.refl _ _⟩
  · by_cases hp : 0 < xs.length
    · have := cloneU64_some g 0 xs.length xs.length xs w hl (Nat.le_refl _) hp (fun j hj => by rw [Nat.zero_add, hb.cell]; simp [List.getElem?_eq_getElem hj])
      simpa using this
    · have e : xs = [] := List.eq_nil_of_length_eq_zero (by omega)
      subst e
      exact cloneU64_zero ⟨g, 0, none⟩ 0 w

theorem cloneInts_own (v : Value) (xs : List Int) (base : Nat) (w : World) (h : Own .i64 3 base w v xs) (hl : xs.length ≤ 1048576) :
    Calls Try.prog 13 #[v] w fun e w' => ∃ v', e = .returned v' ∧ Own .i64 3 w.heap.size w' v' xs ∧ Below w.heap.size w w' := by
  rcases h with ⟨rfl, rfl⟩ | ⟨g, rfl, _, hb⟩
  · exact (cloneInts_nil 0 0 w).mono fun e w' ⟨he, hw⟩ => ⟨_, he, Or.inl ⟨rfl, rfl⟩, hw ▸ Below.refl _ _⟩
  · by_cases hp : 0 < xs.length
    · have := cloneInts_some g 0 xs.length xs.length xs w hl (Nat.le_refl _) hp (fun j hj => by rw [Nat.zero_add, hb.cell]; simp [List.getElem?_eq_getElem hj])
      simpa using this
    · have e : xs = [] := List.eq_nil_of_length_eq_zero (by omega)
      subst e
      exact cloneInts_zero ⟨g, 0, none⟩ 0 w

theorem Own.pos {k : IntKind} {t : TypeId} {base : Nat} {w : World} {v : Value} {xs : List Int} (h : Own k t base w v xs) (hp : 0 < xs.length) : ∃ g, v = .slice (some ⟨g, 0, none⟩) xs.length xs.length ∧ base ≤ g ∧ Blk w g t (xs.map (Value.int k)) := by
  rcases h with ⟨rfl, rfl⟩ | h
  · simp at hp
  · exact h
theorem Own.queue {base : Nat} {w : World} {v : Value} {xs : List Int} (h : Own .i64 3 base w v xs) (hl : xs.length ≤ 4096) : QIs w v xs := by
  rcases h with ⟨rfl, rfl⟩ | ⟨g, rfl, _, hb⟩
  · exact World.ownsRow_nil _ _ _ _
  · have := QIs.of (q := xs) (cur := []) (by simpa using hb) (by simp; omega)
    simpa using this
theorem Own.form {k : IntKind} {t : TypeId} {base : Nat} {w : World} {v : Value} {xs : List Int} (h : Own k t base w v xs) : ∃ a, v = .slice a xs.length xs.length ∧ (∀ b, v.ownBlock = some b → base ≤ b ∧ Blk w b t (xs.map (Value.int k))) ∧ ∀ j, j < xs.length → ∃ g, a = some ⟨g, 0, none⟩ := by
  rcases h with ⟨rfl, rfl⟩ | ⟨g, rfl, hg, hb⟩
  · exact ⟨none, rfl, by simp [Value.ownBlock], by simp⟩
  · refine ⟨some ⟨g, 0, none⟩, rfl, ?_, fun j _ => ⟨g, rfl⟩⟩
    intro b hb'
    simp [Value.ownBlock] at hb'
    subst hb'
    exact ⟨hg, hb⟩
theorem Own.below {k : IntKind} {t : TypeId} {base B : Nat} {w w' : World} {v : Value} {xs : List Int} (h : Own k t base w v xs) (hb : Below B w w') (hB : w.heap.size ≤ B) : Own k t base w' v xs := by
  rcases h with h | ⟨g, hv, hbg, hk⟩
  · exact Or.inl h
  · exact Or.inr ⟨g, hv, hbg, hk.below hb (Nat.lt_of_lt_of_le hk.lt hB)⟩
theorem IsRow.below {k : IntKind} {w w' : World} {a : Option Addr} {len cap : Nat} {zs : List Int} (h : IsRow k w a len cap zs) (hb : Below w.heap.size w w') : IsRow k w' a len cap zs := by
  rcases h with h | ⟨x, h1, h2, h3, h4, h5, h6⟩
  · exact Or.inl h
  · refine Or.inr ⟨x, h1, h2, h3, h4, fun i hi => ?_, h6⟩
    have := h5 i hi
    rw [hb.cell]
    · exact this
    · have := World.block_lt_of_cell? _ _ this
      simpa [Addr.add] using this
theorem IsRow.len {k : IntKind} {w : World} {a : Option Addr} {len cap : Nat} {zs : List Int} (h : IsRow k w a len cap zs) : (zs.take len).length = len ∧ len ≤ maxLen := by
  rcases h with ⟨_, h1, _, h2⟩ | ⟨x, h1, h2, h3, h4, h5, h6⟩
  · subst h1 h2; exact ⟨rfl, Nat.zero_le _⟩
  · rw [List.length_take]; omega
/-- The cells of a row that came in, where it has any. -/
theorem IsRow.at {k : IntKind} {w : World} {a : Option Addr} {len cap : Nat} {zs : List Int} (h : IsRow k w a len cap zs) (hp : 0 < len) : ∃ b off, a = some ⟨b, off, none⟩ ∧ b < w.heap.size ∧ ∀ j, j < len → w.cell? ⟨b, off + j, none⟩ = some (.int k ((zs.take len).getD j 0)) := by
  rcases h with ⟨_, h1, _, h2⟩ | ⟨x, h1, h2, h3, h4, h5, h6⟩
  · omega
  · obtain ⟨b, off, rfl, hc⟩ := Go.ints_at h5 (by omega)
    refine ⟨b, off, h1, World.block_lt_of_cell? _ _ (hc 0 (by omega)), fun j hj => ?_⟩
    rw [hc j (by omega)]
    simp [List.getD_eq_getElem?_getD, List.getElem?_take, hj]
end Go.Proofs.Qxb6602866a

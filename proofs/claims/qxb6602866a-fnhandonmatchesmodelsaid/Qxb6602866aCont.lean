/-
  slices.Contains (function 27) and slices.Delete (function 28) at a queue of the call's own.
-/
import Derived.Test.Qxb6602866aShelf
import Derived.Test.Qxb6602866aModel
namespace Go.Proofs.Qxb6602866a
open Go.RowKit
set_option linter.unusedSimpArgs false
set_option linter.unusedVariables false

/-- The slice value v is a queue of the call's own: it holds just q. -/
def QIs (w : World) (v : Value) (q : List Int) : Prop := w.ownsRow 0 3 1 v q.length (q.map (Value.int .i64))

theorem QIs.form {w : World} {v : Value} {q : List Int} (h : QIs w v q) : (v = .slice none 0 0 ∧ q = []) ∨
    ∃ g cap cur, v = .slice (some ⟨g, 0, none⟩) q.length cap ∧ Blk w g 3 (q.map (Value.int .i64) ++ cur) ∧ cap = q.length + cur.length ∧ cap ≤ 9223372036854775807 := by
  obtain ⟨hl, h | ⟨g, cap, cur, hv, _, hh, hn, hc, hs, ht⟩⟩ := h
  · exact Or.inl ⟨h.1, List.eq_nil_of_length_eq_zero h.2⟩
  · refine Or.inr ⟨g, cap, cur.toList.drop q.length, hv, ?_, ?_, hc⟩
    · unfold Blk
      rw [Nat.mul_one] at ht
      rw [← ht, List.take_append_drop]
      exact hh
    · simp at hs ⊢; omega
theorem QIs.of {w : World} {g : Nat} {q : List Int} {cur : List Value} (h : Blk w g 3 (q.map (Value.int .i64) ++ cur)) (hc : q.length + cur.length ≤ 9223372036854775807) : QIs w (.slice (some ⟨g, 0, none⟩) q.length (q.length + cur.length)) q :=
  ⟨by simp, Or.inr ⟨g, q.length + cur.length, (q.map (Value.int .i64) ++ cur).toArray, rfl, Nat.zero_le _, h, by omega, hc, by simp, by simp⟩⟩

theorem contains_q (v : Value) (q : List Int) (x : Int) (w : World) (h : QIs w v q) :
    Calls Try.prog 27 #[v, .int .i64 x] w fun e w' => e = .returned (.bool (inB q x)) ∧ w' = w := by
  unfold inB
  rcases h.form with ⟨rfl, rfl⟩ | ⟨g, cap, cur, rfl, hb, hc, hm⟩
  · exact (Try.slices_Contains_int_empty none 0 x w).mono fun e w' ⟨he, hw⟩ => ⟨by rw [he]; simp, hw⟩
  · refine (Try.slices_Contains_int g 0 q.length cap q x w (Nat.le_refl _) (by omega) ?_).mono fun e w' ⟨he, hw⟩ => ⟨by rw [he]; simp, hw⟩
    intro j hj
    rw [Nat.zero_add, hb.cell]
    simp [List.getElem?_append, hj, List.getElem?_eq_getElem hj]

/-- Many cells stored at the head of a block that is known whole. -/
theorem Blk.setCells {t : TypeId} {g : Nat} : ∀ (vs : List Value) (o : Nat) {w : World} {cs : List Value}, Blk w g t cs → o + vs.length ≤ cs.length → Blk (w.setCells g o vs) g t (cs.take o ++ vs ++ cs.drop (o + vs.length))
  | [], o, w, cs, h, _ => by simpa [World.setCells] using h
  | v :: r, o, w, cs, h, hl => by
    rw [World.setCells]
    have h2 := Blk.setCells r (o + 1) (h.set o v) (by simp at hl ⊢; omega)
    have e : (cs.set o v).take (o + 1) ++ r ++ (cs.set o v).drop (o + 1 + r.length) = cs.take o ++ v :: r ++ cs.drop (o + (v :: r).length) := by
      simp at hl
      have h1 : (cs.set o v).take (o + 1) = cs.take o ++ [v] := by
        rw [List.take_succ_eq_append_getElem (by simp; omega)]
        simp [List.take_set]
        rw [List.set_eq_of_length_le (by simp; omega)]
      have h3 : (cs.set o v).drop (o + 1 + r.length) = cs.drop (o + (v :: r).length) := by
        rw [List.drop_set_of_lt (by omega)]; simp; congr 1; omega
      rw [h1, h3]; simp
    rw [e] at h2
    exact h2

theorem delete_q (g cap : Nat) (x : Int) (r : List Int) (cur : List Value) (w : World) (hb : Blk w g 3 ((x :: r).map (Value.int .i64) ++ cur)) (hc : cap = (x :: r).length + cur.length) (hm : cap ≤ 9223372036854775807) :
    Calls Try.prog 28 #[.slice (some ⟨g, 0, none⟩) (r.length + 1) cap, .int .i64 0, .int .i64 1] w fun e w' => e = .returned (.slice (some ⟨g, 0, none⟩) r.length cap) ∧
      Blk w' g 3 (r.map (Value.int .i64) ++ (.int .i64 0 :: cur)) ∧ But (fun k => k = g) w w' := by
  refine (Try.slices_Delete_int_cells g 0 (x :: r).length cap 0 1 (x :: r) w (Nat.le_refl _) (by simp at hc ⊢; omega) hm (by omega) (by simp) ?_ (fun j _ => hb.free _)).mono ?_
  · intro j hj
    rw [Nat.zero_add, hb.cell]
    rw [List.getElem?_append_left (by simpa using hj), List.getElem?_map, List.getElem?_eq_getElem hj, List.getD_eq_getElem?_getD, List.getElem?_eq_getElem hj]
    rfl
  · rintro e w' ⟨rfl, q, rfl⟩
    refine ⟨by simp, ?_, ?_⟩
    · have hb' : Blk (w.drewN q) g 3 ((x :: r).map (Value.int .i64) ++ cur) := hb.drewN q
      have h := Blk.setCells (((((x :: r).take (x :: r).length).take 0 ++ ((x :: r).take (x :: r).length).drop 1 ++ List.replicate (1 - 0) 0).map (Value.int .i64))) 0 hb' (by simp)
      have e : ((x :: r).map (Value.int .i64) ++ cur).drop (0 + ((((x :: r).take (x :: r).length).take 0 ++ ((x :: r).take (x :: r).length).drop 1 ++ List.replicate (1 - 0) 0).map (Value.int .i64)).length) = cur := by
        simp
      rw [e] at h
      simpa using h
    · refine But.setCells ?_ (by exact rfl) _ _
      exact (But.refl _ w).drewN q
end Go.Proofs.Qxb6602866a

/-
  Small laws for the walks through handOn: the cells of a Node and of a Token; rows that grow; many cells stored at once.
-/
import Derived.Test.Qxb6602866aKit
import Derived.Laws.IdiomCopy
import Derived.Deep.Draws
namespace Go.Proofs.Qxb6602866a
open Go.RowKit
set_option linter.unusedSimpArgs false
set_option linter.unusedVariables false

/-- The nine cells of a Node. -/
def nd (id : Int) (rv : Value) (st : Int) (tv : Value) (c0 c1 c2 c3 c4 : Int) : List Value :=
  [.int .i64 id, rv, .int .u8 st, tv, .int .u64 c0, .int .u64 c1, .int .u64 c2, .int .u64 c3, .int .u64 c4]
/-- The three cells of a Token. -/
def tk (lv qv : Value) (gr : Int) : List Value := [lv, qv, .int .u64 gr]

theorem Blk.drewN {w : World} {g : Nat} {t : TypeId} {cs : List Value} (h : Blk w g t cs) (q : Nat) : Blk (w.drewN q) g t cs := h
theorem But.drewN {S : Nat → Prop} {a w : World} (h : But S a w) (q : Nat) : But S a (w.drewN q) := ⟨h.os, h.tape, h.output, h.size, h.block⟩
theorem Blk.ne {w : World} {g g' : Nat} {t t' : TypeId} {cs cs' : List Value} (h : Blk w g t cs) (h' : Blk w g' t' cs') (ht : t ≠ t') : g ≠ g' := by
  intro e; subst e; unfold Blk at h h'; rw [h] at h'; simp at h'; exact ht h'.2

theorem But.grown {S : Nat → Prop} {a w w' : World} {row : Option Nat} (h : But S a w) (hg : w.grownBy w' row) (hr : ∀ k, row = some k → S k ∨ a.heap.size ≤ k) : But S a w' :=
  ⟨hg.os.trans h.os, hg.tape.trans h.tape, hg.output.trans h.output, Nat.le_trans h.size hg.size, fun k hk hn => (hg.block k (Nat.lt_of_lt_of_le hk h.size) (fun e => by rcases hr k e.symm with h1 | h1; exact hn h1; omega)).trans (h.block k hk hn)⟩
theorem Blk.grown {w w' : World} {row : Option Nat} {g : Nat} {t : TypeId} {cs : List Value} (h : Blk w g t cs) (hg : w.grownBy w' row) (hr : some g ≠ row) : Blk w' g t cs := by
  unfold Blk; rw [hg.block g h.lt hr]; exact h

theorem heap_setCells (b : Nat) : ∀ (vs : List Value) (o : Nat) (w : World) (k : Nat), k ≠ b → (w.setCells b o vs).heap[k]? = w.heap[k]?
  | [], _, _, _, _ => rfl
  | v :: r, o, w, k, h => by rw [World.setCells, heap_setCells b r (o + 1) _ k h, Below.heap_setCell _ _ _ _ h]
theorem size_setCells (b : Nat) : ∀ (vs : List Value) (o : Nat) (w : World), (w.setCells b o vs).heap.size = w.heap.size
  | [], _, _ => rfl
  | v :: r, o, w => by rw [World.setCells, size_setCells b r (o + 1)]; simp [World.setCell]
theorem rest_setCells (b : Nat) : ∀ (vs : List Value) (o : Nat) (w : World), (w.setCells b o vs).os = w.os ∧ (w.setCells b o vs).tape = w.tape ∧ (w.setCells b o vs).output = w.output
  | [], _, _ => ⟨rfl, rfl, rfl⟩
  | v :: r, o, w => by rw [World.setCells]; exact rest_setCells b r (o + 1) _
theorem But.setCells {S : Nat → Prop} {a w : World} (h : But S a w) {b : Nat} (hp : S b) (o : Nat) (vs : List Value) : But S a (w.setCells b o vs) :=
  h.trans ⟨(rest_setCells b vs o w).1, (rest_setCells b vs o w).2.1, (rest_setCells b vs o w).2.2, by rw [size_setCells]; exact Nat.le_refl _, fun k _ hn => heap_setCells b vs o w k (fun e => hn (e ▸ hp))⟩
theorem Blk.setCells_other {w : World} {g : Nat} {t : TypeId} {cs : List Value} (h : Blk w g t cs) {b : Nat} (hb : g ≠ b) (o : Nat) (vs : List Value) : Blk (w.setCells b o vs) g t cs := by
  unfold Blk; rw [heap_setCells b vs o w g hb]; exact h
end Go.Proofs.Qxb6602866a

/-
  Small laws on worlds that the walks of this seat share: a block of cells that is known whole; what is kept but for some blocks.
-/
import Derived.WalkKit
import Derived.WalkSpells
import Derived.OpenShut
namespace Go.Proofs.Qxb6602866a
open Go.RowKit
set_option linter.unusedSimpArgs false
set_option linter.unusedVariables false

/-- A slice of integers that came in: nil; or a row of 'cap' cells that hold the numbers 'zs'. -/
def IsRow (k : IntKind) (w : World) (a : Option Addr) (len cap : Nat) (zs : List Int) : Prop :=
  (a = none ∧ len = 0 ∧ cap = 0 ∧ zs = []) ∨
  ∃ x, a = some x ∧ len ≤ cap ∧ cap ≤ maxLen ∧ zs.length = cap ∧ (∀ i, i < zs.length → w.cell? (x.add i) = some (.int k (zs.getD i 0))) ∧ ∀ n ∈ zs, (Lit.int k n).wf = true

/-- The block g holds just the cells cs, of type t, none of them frozen. -/
def Blk (w : World) (g : Nat) (t : TypeId) (cs : List Value) : Prop := w.heap[g]? = some (.cells cs.toArray t (0, 0))

theorem Blk.lt {w : World} {g : Nat} {t : TypeId} {cs : List Value} (h : Blk w g t cs) : g < w.heap.size := lt_of_block h
theorem Blk.cell {w : World} {g : Nat} {t : TypeId} {cs : List Value} (h : Blk w g t cs) (o : Nat) : w.cell? ⟨g, o, none⟩ = cs[o]? := by
  unfold Blk at h; simp [World.cell?, h]
theorem Blk.free {w : World} {g : Nat} {t : TypeId} {cs : List Value} (h : Blk w g t cs) (o : Nat) : w.frozen? ⟨g, o, none⟩ = false := by
  unfold Blk at h; simp [World.frozen?, h]
theorem Blk.set {w : World} {g : Nat} {t : TypeId} {cs : List Value} (h : Blk w g t cs) (o : Nat) (v : Value) : Blk (w.setCell ⟨g, o, none⟩ v) g t (cs.set o v) := by
  have hlt := h.lt
  unfold Blk at h ⊢
  have h' : w.heap[g] = .cells cs.toArray t (0, 0) := by simpa [Array.getElem?_eq_getElem hlt] using h
  show (w.heap.modify g _)[g]? = _
  rw [Array.getElem?_eq_getElem (by simpa using hlt), Array.getElem_modify_self, h']
  simp
theorem Blk.other {w : World} {g : Nat} {t : TypeId} {cs : List Value} (h : Blk w g t cs) {a : Addr} (ha : g ≠ a.block) (v : Value) : Blk (w.setCell a v) g t cs := by
  unfold Blk; rw [Below.heap_setCell _ _ _ _ ha]; exact h
theorem Blk.alloc {w : World} {g : Nat} {t : TypeId} {cs : List Value} (h : Blk w g t cs) (o : Obj) : Blk (w.alloc o) g t cs := by
  unfold Blk; rw [Below.heap_alloc _ _ _ h.lt]; exact h
theorem Blk.new (w : World) (t : TypeId) (cs : List Value) : Blk (w.alloc (.cells cs.toArray t (0, 0))) w.heap.size t cs := by
  show (w.heap.push _)[w.heap.size]? = _
  simp
theorem Blk.drew {w : World} {g : Nat} {t : TypeId} {cs : List Value} (h : Blk w g t cs) : Blk w.drew g t cs := h
theorem Blk.below {B : Nat} {w w' : World} {g : Nat} {t : TypeId} {cs : List Value} (h : Blk w g t cs) (hb : Below B w w') (hg : g < B) : Blk w' g t cs := by
  unfold Blk; rw [hb.block g hg]; exact h

/-- A slice of the call's own: nil and empty; or a whole block, from its head on, no spare. -/
def Own (k : IntKind) (t : TypeId) (base : Nat) (w : World) (v : Value) (xs : List Int) : Prop :=
  (v = .slice none 0 0 ∧ xs = []) ∨ ∃ g, v = .slice (some ⟨g, 0, none⟩) xs.length xs.length ∧ base ≤ g ∧ Blk w g t (xs.map (Value.int k))

theorem map_eq_of {k : IntKind} (zs : List Int) (n : Nat) (hn : n ≤ zs.length) (cs : List Value) (hl : cs.length = n) (h : ∀ j, j < n → cs[j]? = some (.int k (zs.getD j 0))) : cs = (zs.take n).map (Value.int k) := by
  apply List.ext_getElem?
  intro j
  by_cases hj : j < n
  · rw [h j hj]
    simp [List.getElem?_take, hj, List.getElem?_eq_getElem (show j < zs.length by omega)]
  · rw [List.getElem?_eq_none (by omega)]
    simp [List.getElem?_take, hj]

/-- All blocks that were there, but those in S, are as they were. -/
structure But (S : Nat → Prop) (w w' : World) : Prop where
  os : w'.os = w.os
  tape : w'.tape = w.tape
  output : w'.output = w.output
  size : w.heap.size ≤ w'.heap.size
  block : ∀ k, k < w.heap.size → ¬ S k → w'.heap[k]? = w.heap[k]?

theorem But.refl (S : Nat → Prop) (w : World) : But S w w := ⟨rfl, rfl, rfl, Nat.le_refl _, fun _ _ _ => rfl⟩
theorem But.trans {S : Nat → Prop} {a b c : World} (h : But S a b) (k : But S b c) : But S a c :=
  ⟨k.os.trans h.os, k.tape.trans h.tape, k.output.trans h.output, Nat.le_trans h.size k.size, fun i hi hs => (k.block i (Nat.lt_of_lt_of_le hi h.size) hs).trans (h.block i hi hs)⟩
theorem But.mono {S S' : Nat → Prop} {w w' : World} (h : But S w w') (hs : ∀ k, k < w.heap.size → S k → S' k) : But S' w w' :=
  ⟨h.os, h.tape, h.output, h.size, fun k hk hn => h.block k hk (fun e => hn (hs k hk e))⟩
theorem But.drew {S : Nat → Prop} {a w : World} (h : But S a w) : But S a w.drew := ⟨h.os, h.tape, h.output, h.size, h.block⟩
theorem But.alloc {S : Nat → Prop} {a w : World} (h : But S a w) (o : Obj) : But S a (w.alloc o) :=
  h.trans ⟨rfl, rfl, rfl, by simp, fun k hk _ => Below.heap_alloc _ _ _ hk⟩
theorem But.setCell {S : Nat → Prop} {a w : World} (h : But S a w) {p : Addr} (hp : S p.block) (u : Value) : But S a (w.setCell p u) :=
  h.trans ⟨rfl, rfl, rfl, by simp [World.setCell], fun k _ hn => Below.heap_setCell _ _ _ _ (fun e => hn (e ▸ hp))⟩
theorem But.of_below {B : Nat} {w w' : World} (h : Below B w w') : But (fun k => B ≤ k) w w' :=
  ⟨h.os, h.tape, h.output, h.size, fun k _ hn => h.block k (by omega)⟩
theorem But.below {S : Nat → Prop} {B : Nat} {w w' : World} (h : But S w w') (hB : B ≤ w.heap.size) (hs : ∀ k, S k → B ≤ k) : Below B w w' :=
  ⟨h.os, h.tape, h.output, h.size, fun k hk => h.block k (by omega) (fun e => by have := hs k e; omega)⟩
theorem Blk.but {S : Nat → Prop} {w w' : World} {g : Nat} {t : TypeId} {cs : List Value} (h : Blk w g t cs) (hb : But S w w') (hg : ¬ S g) : Blk w' g t cs := by
  unfold Blk; rw [hb.block g h.lt hg]; exact h
theorem Own.but {k : IntKind} {t : TypeId} {base : Nat} {S : Nat → Prop} {w w' : World} {v : Value} {xs : List Int} (h : Own k t base w v xs) (hb : But S w w') (hg : ∀ g, base ≤ g → ¬ S g) : Own k t base w' v xs := by
  rcases h with h | ⟨g, hv, hbg, hk⟩
  · exact Or.inl h
  · exact Or.inr ⟨g, hv, hbg, hk.but hb (hg g hbg)⟩
end Go.Proofs.Qxb6602866a

/-
  What the walk of FnHandOnMatchesModel (function 5) uses: the marks of who waits; the plain laws; the states.
-/
import Derived.Test.Qxb6602866aOwn
import Derived.Test.Qxb6602866aMade
import Derived.Test.Qxb6602866aZZHandOn
import Derived.Test.Qxb6602866aEqual
import Derived.Lib.Builder
namespace Go.Proofs.Qxb6602866a
open Go.RowKit
set_option linter.unusedSimpArgs false
set_option linter.unusedVariables false

namespace Mm
theorem info4 : (Try.prog.info? 4).map (fun i => (i.zero, i.size, i.bytes)) = some (some (.bool false), 1, 1) := by kernel_rfl
theorem info3 : (Try.prog.info? 3).map (fun i => (i.zero, i.size, i.bytes)) = some (some (.int .i64 0), 1, 8) := by kernel_rfl
theorem info55 : (Try.prog.info? 55).isSome = true := by kernel_rfl
theorem neq_tok (w : World) (a : Addr) : (binOp .neq 41 (.pointer (some a)) (.pointer (some a))).run Try.prog w = .ok (.bool false) w := by
  obtain ⟨j, hj⟩ := Option.isSome_iff_exists.1 info55
  exact Lib.run_neq_ptr_same w a Try.underlying41 hj
theorem own_mono {k : IntKind} {t : TypeId} {base base' : Nat} {w : World} {v : Value} {xs : List Int} (h : Own k t base w v xs) (hb : base' ≤ base) : Own k t base' w v xs := by
  rcases h with h | ⟨g, hv, hbg, hk⟩
  · exact Or.inl h
  · exact Or.inr ⟨g, hv, Nat.le_trans hb hbg, hk⟩
theorem new_node (w : World) (o : Obj) (id : Int) (rv : Value) (st : Int) (tv : Value) (c0 c1 c2 c3 c4 : Int) : Blk ((w.alloc o).alloc (Obj.cells #[.int .i64 id, rv, .int .u8 st, tv, .int .u64 c0, .int .u64 c1, .int .u64 c2, .int .u64 c3, .int .u64 c4] 62)) (w.heap.size + 1) 62 (nd id rv st tv c0 c1 c2 c3 c4) := by
  have := Blk.new (w.alloc o) 62 (nd id rv st tv c0 c1 c2 c3 c4)
  rw [show (w.alloc o).heap.size = w.heap.size + 1 by simp] at this
  exact this
theorem new_tok (w : World) (o : Obj) (lv qv : Value) (gr : Int) : Blk ((w.alloc (Obj.cells #[lv, qv, .int .u64 gr] 55)).alloc o) w.heap.size 55 (tk lv qv gr) := (Blk.new w 55 (tk lv qv gr)).alloc o
theorem blk_alloc2 {w : World} {g : Nat} {t : TypeId} {cs : List Value} (h : Blk w g t cs) (o o' : Obj) : Blk ((w.alloc o).alloc o') g t cs := (h.alloc o).alloc o'

/-- Is node j + 1 due? (Marks: place j + 1; filled for the first k nodes.) -/
def due (rn ln : List Int) (i : Nat) (k j : Nat) : Bool := decide (1 ≤ j ∧ j ≤ k) && (!(j - 1 == i) && duB (rn.getD (j - 1) 0) (ln.getD (j - 1) 0))
theorem due_zero (rn ln : List Int) (i : Nat) (N : Nat) : bl (due rn ln i 0) N = bl (fun _ => false) N := by
  unfold bl; congr 1; funext j; unfold due; rw [show decide (1 ≤ j ∧ j ≤ 0) = false by simp; omega]; simp
theorem due_step (rn ln : List Int) (i k : Nat) (b : Bool) (hb : b = (!(k == i) && duB (rn.getD k 0) (ln.getD k 0))) (x : Nat) : due rn ln i (k + 1) x = if x = k + 1 then b else due rn ln i k x := by
  unfold due
  by_cases e : x = k + 1
  · subst e
    rw [if_pos rfl, show decide (1 ≤ k + 1 ∧ k + 1 ≤ k + 1) = true by simp, hb]
    simp
  · rw [if_neg e]
    congr 1
    by_cases h : 1 ≤ x ∧ x ≤ k
    · rw [decide_eq_true h, decide_eq_true (show 1 ≤ x ∧ x ≤ k + 1 from ⟨h.1, by omega⟩)]
    · rw [decide_eq_false h, decide_eq_false (show ¬ (1 ≤ x ∧ x ≤ k + 1) by omega)]
theorem bl_ext {f g : Nat → Bool} {N : Nat} (h : ∀ j, j < N → f j = g j) : bl f N = bl g N := by
  apply List.ext_getElem?
  intro x
  by_cases hx : x < N
  · rw [bl_at _ _ _ hx, bl_at _ _ _ hx, h x hx]
  · rw [List.getElem?_eq_none (by rw [bl_len]; omega), List.getElem?_eq_none (by rw [bl_len]; omega)]
/-- The marks behind the strikes of xs. -/
def left (rn ln : List Int) (i n : Nat) (xs : List Int) (j : Nat) : Bool := due rn ln i n j && !(inB xs (j : Int))
theorem left_nil (rn ln : List Int) (i n N : Nat) : bl (left rn ln i n []) N = bl (due rn ln i n) N := bl_ext fun j _ => by simp [left, inB]
theorem left_strike (rn ln : List Int) (i n : Nat) (xs : List Int) (X : Nat) (x : Nat) : left rn ln i n (xs ++ [(X : Int)]) x = if x = X then false else left rn ln i n xs x := by
  unfold left
  rw [inB_snoc]
  by_cases e : x = X
  · subst e; simp
  · rw [if_neg e, if_neg (by omega)]
theorem left_out (rn ln : List Int) (i n : Nat) (xs : List Int) (y : Int) (h : y < 1 ∨ (n : Int) < y) (x : Nat) : left rn ln i n (xs ++ [y]) x = left rn ln i n xs x := by
  unfold left
  rw [inB_snoc]
  by_cases e : (x : Int) = y
  · rw [if_pos e]
    unfold due
    rw [show decide (1 ≤ x ∧ x ≤ n) = false from decide_eq_false (by omega)]
    simp
  · rw [if_neg e]
theorem left_at (rn ln : List Int) (i n k : Nat) (q : List Int) (h : k < n) : left rn ln i n q (k + 1) = joinB rn ln i q k := by
  unfold left due joinB
  rw [show decide (1 ≤ k + 1 ∧ k + 1 ≤ n) = true from decide_eq_true ⟨by omega, by omega⟩]
  simp [Bool.and_assoc]
theorem joinB_full (rn ln : List Int) (i : Nat) (q : List Int) (k : Nat) : joinB rn ln i (fullQ rn ln i q k) k = joinB rn ln i q k := by
  rw [Bool.eq_iff_iff, joinB_iff, joinB_iff, fullQ_mem]
  constructor
  · rintro ⟨a, b, c⟩
    exact ⟨a, b, fun h => c (Or.inl h)⟩
  · rintro ⟨a, b, c⟩
    refine ⟨a, b, ?_⟩
    rintro (h | ⟨j, h1, h2, _⟩)
    · exact c h
    · omega
theorem set_at {rn ln ln' : List Int} {i : Nat} (h : ln' = ln.set i (rn.getD i 0)) (hl : i < ln'.length) : ln'.getD i 0 = rn.getD i 0 := by
  subst h
  rw [List.getD_eq_getElem?_getD, List.getElem?_set_self (by simpa using hl)]
  rfl

/-- The model's part: the caller's copies (RN, LN, the queue), the wanted LN, the marks f. -/
structure Prep (wz w : World) (n l m : Nat) (qa : Option Addr) (rn ln ln' q : List Int) (R0 L0 WL DU : Nat) (f : Nat → Bool) : Prop where
  fr0 : Blk wz R0 22 (rn.map (.int .u64))
  fl0 : Blk wz L0 22 (ln.map (.int .u64))
  fwl : Blk wz WL 22 (ln'.map (.int .u64))
  fq0 : Own .i64 3 w.heap.size wz (.slice qa m m) q
  fdu : Blk wz DU 4 (bl f (n + 1))
  lt : w.heap.size ≤ R0 ∧ w.heap.size ≤ L0 ∧ w.heap.size ≤ WL ∧ w.heap.size ≤ DU
  bel : Below w.heap.size w wz

theorem own_set {k : IntKind} {t : TypeId} {base : Nat} {w : World} {v : Value} {xs : List Int} (h : Own k t base w v xs) {a : Addr} {t' : TypeId} {cs : List Value} (ha : Blk w a.block t' cs) (ht : t ≠ t') (u : Value) : Own k t base (w.setCell a u) v xs := by
  rcases h with h | ⟨g, hv, hbg, hk⟩
  · exact Or.inl h
  · exact Or.inr ⟨g, hv, hbg, hk.other (hk.ne ha ht) _⟩
theorem own_at {b : Nat} {wz : World} {qa : Option Addr} {m : Nat} {q : List Int} (h : Own .i64 3 b wz (.slice qa m m) q) {u : Nat} (hm : q.length = m) (hu : u < m) : ∃ Q0, qa = some ⟨Q0, 0, none⟩ ∧ ∃ x, wz.cell? ⟨Q0, u, none⟩ = some (.int .i64 x) ∧ Hid (x = q.getD u 0) := by
  obtain ⟨Q0, hv, _, hb⟩ := h.pos (by omega)
  simp at hv
  refine ⟨Q0, hv.1, _, ?_, rfl⟩
  rw [hb.cell]; simp [List.getElem?_eq_getElem (show u < q.length by omega)]
theorem own_grown {k : IntKind} {t : TypeId} {base : Nat} {w w' : World} {v : Value} {xs : List Int} (h : Own k t base w v xs) (hg : w.grownBy w' none) : Own k t base w' v xs := by
  rcases h with h | ⟨g, hv, hbg, hk⟩
  · exact Or.inl h
  · exact Or.inr ⟨g, hv, hbg, hk.grown hg (by simp)⟩

theorem Prep.drewN {wz w : World} {n l m : Nat} {qa : Option Addr} {rn ln ln' q : List Int} {R0 L0 WL DU : Nat} {f : Nat → Bool} (h : Prep wz w n l m qa rn ln ln' q R0 L0 WL DU f) (k : Nat) : Prep (wz.drewN k) w n l m qa rn ln ln' q R0 L0 WL DU f :=
  ⟨h.fr0, h.fl0, h.fwl, h.fq0, h.fdu, h.lt, ⟨h.bel.os, h.bel.tape, h.bel.output, h.bel.size, h.bel.block⟩⟩
theorem Prep.drew {wz w : World} {n l m : Nat} {qa : Option Addr} {rn ln ln' q : List Int} {R0 L0 WL DU : Nat} {f : Nat → Bool} (h : Prep wz w n l m qa rn ln ln' q R0 L0 WL DU f) : Prep wz.drew w n l m qa rn ln ln' q R0 L0 WL DU f :=
  ⟨h.fr0, h.fl0, h.fwl, h.fq0, h.fdu, h.lt, h.bel.drew⟩
theorem Prep.mark {wz w : World} {n l m : Nat} {qa : Option Addr} {rn ln ln' q : List Int} {R0 L0 WL DU : Nat} {f g : Nat → Bool} (h : Prep wz w n l m qa rn ln ln' q R0 L0 WL DU f) (j : Nat) (b : Bool) (hg : ∀ x, g x = if x = j then b else f x) : Prep (wz.setCell ⟨DU, j, none⟩ (.bool b)) w n l m qa rn ln ln' q R0 L0 WL DU g := by
  refine ⟨h.fr0.other (h.fr0.ne h.fdu (by decide)) _, h.fl0.other (h.fl0.ne h.fdu (by decide)) _, h.fwl.other (h.fwl.ne h.fdu (by decide)) _, own_set h.fq0 (a := ⟨DU, j, none⟩) h.fdu (by decide) _, ?_, h.lt, h.bel.setCell h.lt.2.2.2 _⟩
  have := h.fdu.set j (.bool b)
  rw [bl_set f g _ _ _ (fun x _ => hg x)] at this
  exact this
theorem Prep.same {wz w : World} {n l m : Nat} {qa : Option Addr} {rn ln ln' q : List Int} {R0 L0 WL DU : Nat} {f g : Nat → Bool} (h : Prep wz w n l m qa rn ln ln' q R0 L0 WL DU f) (hg : ∀ x, g x = f x) : Prep wz w n l m qa rn ln ln' q R0 L0 WL DU g := by
  rw [show g = f from funext hg]; exact h

/-- .. and the full queue F so far, in the block FU. -/
structure PF (wz w : World) (n l m : Nat) (qa : Option Addr) (rn ln ln' q : List Int) (R0 L0 WL DU FU CAP : Nat) (f : Nat → Bool) (F : List Int) : Prop where
  pp : Prep wz w n l m qa rn ln ln' q R0 L0 WL DU f
  ff : wz.ownsRow 0 3 1 (.slice (some ⟨FU, 0, none⟩) F.length CAP) F.length (F.map (Value.int .i64))
  ne : ∀ b, (Value.slice qa m m).ownBlock = some b → b ≠ FU
  ltF : w.heap.size ≤ FU

theorem PF.start {wz w w6 : World} {n l m : Nat} {qa : Option Addr} {rn ln ln' q : List Int} {R0 L0 WL DU CAP : Nat} {f : Nat → Bool} (h : Prep wz w n l m qa rn ln ln' q R0 L0 WL DU f)
    (hown : w6.ownsRow 0 3 1 (.slice (some ⟨wz.heap.size, 0, none⟩) 0 CAP) 0 []) (hg : wz.grownBy w6 none) : PF w6 w n l m qa rn ln ln' q R0 L0 WL DU wz.heap.size CAP f [] := by
  refine ⟨⟨h.fr0.grown hg (by simp), h.fl0.grown hg (by simp), h.fwl.grown hg (by simp), own_grown h.fq0 hg, h.fdu.grown hg (by simp), h.lt, h.bel.grown hg h.bel.size (by simp)⟩, hown, ?_, h.bel.size⟩
  intro b hb
  rcases h.fq0 with ⟨hv, _⟩ | ⟨g, hv, _, hk⟩
  · rw [hv] at hb; simp [Value.ownBlock] at hb
  · rw [hv] at hb; simp [Value.ownBlock] at hb; subst hb; exact Nat.ne_of_lt hk.lt

theorem PF.push {wz w w7 : World} {n l m : Nat} {qa : Option Addr} {rn ln ln' q : List Int} {R0 L0 WL DU FU CAP : Nat} {f : Nat → Bool} {F : List Int} {x : Int} {o : Obj} (h : PF wz w n l m qa rn ln ln' q R0 L0 WL DU FU CAP f F)
    (hown : w7.ownsRow 0 3 1 (.slice (some ⟨FU, 0, none⟩) (F.length + 1) CAP) (F.length + 1) (F.map (Value.int .i64) ++ [.int .i64 x])) (hg : (wz.alloc o).grownBy w7 (some FU)) : PF w7 w n l m qa rn ln ln' q R0 L0 WL DU FU CAP f (F ++ [x]) := by
  have hq : QIs wz (.slice (some ⟨FU, 0, none⟩) F.length CAP) F := h.ff
  have far : ∀ {b : Nat} {t : TypeId} {cs : List Value}, Blk wz b t cs → t ≠ 3 → Blk w7 b t cs := fun hb ht => (hb.alloc o).grown hg (fun e => hq.ne rfl hb ht (by simpa using e.symm))
  refine ⟨⟨far h.pp.fr0 (by decide), far h.pp.fl0 (by decide), far h.pp.fwl (by decide), ?_, far h.pp.fdu (by decide), h.pp.lt, (h.pp.bel.alloc h.pp.bel.size o).grown hg (by have := h.pp.bel.size; simp; omega) (by intro k e; simp at e; have := h.ltF; omega)⟩, ?_, h.ne, h.ltF⟩
  · rcases h.pp.fq0 with h0 | ⟨g, hv, hbg, hk⟩
    · exact Or.inl h0
    · exact Or.inr ⟨g, hv, hbg, (hk.alloc o).grown hg (fun e => h.ne g (by rw [hv]; rfl) (by simpa using e))⟩
  · have e : (F ++ [x]).length = F.length + 1 := by simp
    rw [e]; simpa using hown
theorem PF.drop {wz w : World} {n l m : Nat} {qa : Option Addr} {rn ln ln' q : List Int} {R0 L0 WL DU FU CAP : Nat} {f : Nat → Bool} {F : List Int} (h : PF wz w n l m qa rn ln ln' q R0 L0 WL DU FU CAP f F) : QIs wz (.slice (some ⟨FU, 0, none⟩) F.length CAP) F := h.ff

theorem own_of {k : IntKind} {t : TypeId} {w : World} {g n : Nat} {xs : List Int} (h : Blk w g t (xs.map (Value.int k))) (hn : xs.length = n) : Own k t 0 w (.slice (some ⟨g, 0, none⟩) n n) xs := Or.inr ⟨g, by rw [hn], Nat.zero_le _, h⟩
theorem qis_below {w w' : World} {v : Value} {q : List Int} (h : QIs w v q) (hb : Below w.heap.size w w') : QIs w' v q := by
  obtain ⟨h1, h2⟩ := h
  refine ⟨h1, ?_⟩
  rcases h2 with h2 | ⟨g, cap, cur, hv, hg, hh, r⟩
  · exact Or.inl h2
  · exact Or.inr ⟨g, cap, cur, hv, hg, by rw [hb.block g (lt_of_block hh)]; exact hh, r⟩
theorem qis_lt {w : World} {v : Value} {q : List Int} {g : Nat} (h : QIs w v q) (hv : v.ownBlock = some g) : g < w.heap.size := (World.ownsRow.lt h g hv).2
theorem joinB_left {rn ln : List Int} {i n k : Nat} {q : List Int} (h : k < n) : left rn ln i n q (k + 1) = joinB rn ln i (fullQ rn ln i q k) k := by rw [joinB_full, left_at _ _ _ _ _ _ h]

/-- The world ahead of the node's making. -/
structure MSt (wz w : World) (b1 n l m : Nat) (qb : Option Addr) (rn ln ln' q F : List Int) (R0 WL FU CAP R L : Nat) : Prop where
  fr0 : Blk wz R0 22 (rn.map (.int .u64))
  fwl : Blk wz WL 22 (ln'.map (.int .u64))
  ffu : QIs wz (.slice (some ⟨FU, 0, none⟩) F.length CAP) F
  fr : Blk wz R 22 (rn.map (.int .u64))
  fl : Blk wz L 22 (ln.map (.int .u64))
  fq : Own .i64 3 b1 wz (.slice qb m m) q
  lt : R0 < b1 ∧ WL < b1 ∧ FU < b1 ∧ b1 ≤ R ∧ b1 ≤ L ∧ R ≠ L ∧ b1 ≤ wz.heap.size ∧ w.heap.size ≤ b1
  bel : Below w.heap.size w wz

/-- The world behind handOn. -/
structure MEnd (wz w : World) (i n l : Nat) (rn ln' F : List Int) (R0 WL FU CAP R L N T : Nat) (c0 c1 c2 c3 c4 gr : Int) (e : Ending) : Prop where
  fr0 : Blk wz R0 22 (rn.map (.int .u64))
  fwl : Blk wz WL 22 (ln'.map (.int .u64))
  ffu : QIs wz (.slice (some ⟨FU, 0, none⟩) F.length CAP) F
  fr : Blk wz R 22 (rn.map (.int .u64))
  fl : Blk wz L 22 (ln'.map (.int .u64))
  bel : Below w.heap.size w wz
  fin : (F = [] ∧ e = .returned (.agg #[.slice none 0 0, .bool false, .int .u64 0]) ∧ Blk wz N 62 (nd ((i : Int) + 1) (.slice (some ⟨R, 0, none⟩) n n) 0 (.pointer (some ⟨T, 0, none⟩)) c0 c1 c2 c3 c4) ∧
      ∃ a cap, Blk wz T 55 (tk (.slice (some ⟨L, 0, none⟩) l l) (.slice a 0 cap) gr)) ∨
   ∃ x r M g cap cur, F = x :: r ∧ e = .returned (.agg #[.slice (some ⟨M, 0, none⟩) 1 1, .bool false, .int .u64 0]) ∧
      Blk wz M 57 [.int .u8 2, .int .i64 ((i : Int) + 1), .int .i64 x, .int .u64 0, .pointer (some ⟨T, 0, none⟩)] ∧
      Blk wz N 62 (nd ((i : Int) + 1) (.slice (some ⟨R, 0, none⟩) n n) 0 (.pointer none) c0 c1 (IntKind.u64.wrap (c2 + 1)) c3 c4) ∧
      Blk wz T 55 (tk (.slice (some ⟨L, 0, none⟩) l l) (.slice (some ⟨g, 0, none⟩) r.length cap) gr) ∧ Blk wz g 3 (r.map (.int .i64) ++ cur) ∧ r.length ≤ cap

theorem mend {wz w w7 : World} {b1 i m n l : Nat} {qb : Option Addr} {rn ln ln' q F : List Int} {R0 WL FU CAP R L : Nat} {c0 c1 c2 c3 c4 gr : Int} {e : Ending} {o o' : Obj}
    (h : HEnd (wz.heap.size + 1) wz.heap.size R L i n l (.slice qb m m) rn ln' c0 c1 c2 c3 c4 gr ((wz.alloc o).alloc o') e w7 F) (z : MSt wz w b1 n l m qb rn ln ln' q F R0 WL FU CAP R L) :
    MEnd w7 w i n l rn ln' F R0 WL FU CAP R L (wz.heap.size + 1) wz.heap.size c0 c1 c2 c3 c4 gr e := by
  obtain ⟨hR, hL, hb, h⟩ := h
  obtain ⟨t1, t2, t3, t4, t5, t6, t7, t8⟩ := z.lt
  have hw : Below b1 wz w7 := by
    have h1 : Below b1 wz ((wz.alloc o).alloc o') := ((Below.refl _ _).alloc t7 o).alloc (by simp; omega) o'
    refine h1.trans (hb.below (by simp; omega) ?_)
    rintro k (rfl | rfl | rfl | hk)
    · omega
    · omega
    · omega
    · rcases z.fq with ⟨hv, _⟩ | ⟨g, hv, hbg, _⟩
      · rw [hv] at hk; simp [Value.ownBlock] at hk
      · rw [hv] at hk; simp [Value.ownBlock] at hk; omega
  refine ⟨z.fr0.below hw t1, z.fwl.below hw t2, ?_, hR, hL, z.bel.trans (hw.mono t8), ?_⟩
  · obtain ⟨h1, h2⟩ := z.ffu
    refine ⟨h1, ?_⟩
    rcases h2 with h2 | ⟨g, cap, cur, hv, hg, hh, r⟩
    · exact Or.inl h2
    · have eg : FU = g := by simp at hv; exact hv.1
      exact Or.inr ⟨g, cap, cur, hv, hg, by rw [hw.block g (by omega)]; exact hh, r⟩
  · rcases h with h | ⟨x, r, M, g, cap, cur, h1, h2, hM, h3, h4, h5, h6, h7⟩
    · exact Or.inl h
    · exact Or.inr ⟨x, r, M, g, cap, cur, h1, h2, h3, h4, h5, h6, h7⟩

theorem counts_below (N : Nat) (id st c0 c1 c2 c3 c4 : Int) (rv tv : Value) (w : World) (hN : Blk w N 62 (nd id rv st tv c0 c1 c2 c3 c4)) :
    Calls Try.prog 21 #[.pointer (some ⟨N, 0, none⟩)] w fun e w' => e = .returned (.agg #[.int .u64 c0, .int .u64 c1, .int .u64 c2, .int .u64 c3, .int .u64 c4]) ∧ Below w.heap.size w w' :=
  (counts_any N id st c0 c1 c2 c3 c4 rv tv w hN).mono fun e w' ⟨he, hw⟩ => ⟨he, hw ▸ (Below.refl _ _).alloc (Nat.le_refl _) _⟩
theorem row_cells {k : IntKind} {w : World} {g : Nat} {t : TypeId} {xs : List Int} (h : Blk w g t (xs.map (Value.int k))) {n : Nat} (hn : xs.length = n) : ∀ j, j < n → w.cell? ⟨g, 0 + j, none⟩ = some (.int k (xs.getD j 0)) := by
  intro j hj
  rw [Nat.zero_add, h.cell]; simp [List.getElem?_eq_getElem (show j < xs.length by omega)]
/-- What came of handOn, seen from a later world. -/
theorem MEnd.later {wz w w' : World} {i n l : Nat} {rn ln' F : List Int} {R0 WL FU CAP R L N T : Nat} {c0 c1 c2 c3 c4 gr : Int} {e : Ending} (h : MEnd wz w i n l rn ln' F R0 WL FU CAP R L N T c0 c1 c2 c3 c4 gr e) (hb : Below wz.heap.size wz w') : MEnd w' w i n l rn ln' F R0 WL FU CAP R L N T c0 c1 c2 c3 c4 gr e := by
  refine ⟨h.fr0.below hb h.fr0.lt, h.fwl.below hb h.fwl.lt, qis_below h.ffu hb, h.fr.below hb h.fr.lt, h.fl.below hb h.fl.lt, h.bel.trans (hb.mono h.bel.size), ?_⟩
  rcases h.fin with ⟨h1, h2, h3, a, cap, h4⟩ | ⟨x, r, M, g, cap, cur, h1, h2, h3, h4, h5, h6, h7⟩
  · exact Or.inl ⟨h1, h2, h3.below hb h3.lt, a, cap, h4.below hb h4.lt⟩
  · exact Or.inr ⟨x, r, M, g, cap, cur, h1, h2, h3.below hb h3.lt, h4.below hb h4.lt, h5.below hb h5.lt, h6.below hb h6.lt, h7⟩

theorem quiet_of2 {P : Program} {f : FuncId} {args : Array Value} {w : World} {a b : Nat} {v : Value}
    (h : Calls P f args (w.drewN (a + b)) fun e w' => e = .returned v ∧ ∃ m, w' = (w.drewN (a + b)).drewN m) : Calls P f args (w.drewN (a + b)) fun e w'' => e = .returned v ∧ ∃ m, w'' = w.drewN (a + m) :=
  h.mono fun _ _ ⟨he, m, hm⟩ => ⟨he, b + m, by rw [hm, World.drewN_drewN, Nat.add_assoc]⟩
theorem full_cells {w : World} {FU CAP : Nat} {x : Int} {r : List Int} (h : QIs w (.slice (some ⟨FU, 0, none⟩) (x :: r).length CAP) (x :: r)) : w.cell? ⟨FU, 0, none⟩ = some (.int .i64 x) ∧ (∃ cur', Blk w FU 3 ((x :: r).map (.int .i64) ++ cur')) ∧ r.length + 1 ≤ CAP := by
  rcases h.form with ⟨hv, _⟩ | ⟨g, cap, cur, hv, hb, hc, _⟩
  · simp at hv
  · simp at hv
    obtain ⟨rfl, rfl⟩ := hv
    exact ⟨by rw [hb.cell]; rfl, ⟨cur, hb⟩, by rw [List.length_cons] at hc; omega⟩
theorem full_at {w : World} {FU : Nat} {x : Int} {r : List Int} {cur' : List Value} (hb : Blk w FU 3 ((x :: r).map (.int .i64) ++ cur')) : ∀ j, j < r.length → w.cell? ⟨FU, 1 + j, none⟩ = some (.int .i64 (r.getD j 0)) := by
  intro j hj
  rw [hb.cell, List.getElem?_append_left (by simp; omega), List.getElem?_map, Nat.add_comm 1 j, List.getElem?_cons_succ, List.getElem?_eq_getElem hj, List.getD_eq_getElem?_getD, List.getElem?_eq_getElem hj]
  rfl
theorem queue_cells {w : World} {g : Nat} {r : List Int} {cur : List Value} (h : Blk w g 3 (r.map (.int .i64) ++ cur)) : ∀ j, j < r.length → w.cell? ⟨g, 0 + j, none⟩ = some (.int .i64 (r.getD j 0)) := by
  intro j hj
  rw [Nat.zero_add, h.cell, List.getElem?_append_left (by simpa using hj), List.getElem?_map, List.getElem?_eq_getElem hj, List.getD_eq_getElem?_getD, List.getElem?_eq_getElem hj]
  rfl
end Mm
end Go.Proofs.Qxb6602866a

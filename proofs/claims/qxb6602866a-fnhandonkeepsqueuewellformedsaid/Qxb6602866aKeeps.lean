/-
  FnHandOnKeepsQueueWellFormed (function 6): the main way.
-/
import Derived.Test.Qxb6602866aOwn
import Derived.Test.Qxb6602866aMade
import Derived.Test.Qxb6602866aZZHandOn
import Derived.Lib.Builder
namespace Go.Proofs.Qxb6602866a
open Go.RowKit
set_option linter.unusedSimpArgs false
set_option linter.unusedVariables false

theorem Try.info55 : (Try.prog.info? 55).isSome = true := by kernel_rfl
theorem neq_tok (w : World) (a : Addr) : (binOp .neq 41 (.pointer (some a)) (.pointer (some a))).run Try.prog w = .ok (.bool false) w := by
  obtain ⟨j, hj⟩ := Option.isSome_iff_exists.1 Try.info55
  exact Lib.run_neq_ptr_same w a Try.underlying41 hj
theorem Try.info4 : (Try.prog.info? 4).map (fun i => (i.zero, i.size, i.bytes)) = some (some (.bool false), 1, 1) := by kernel_rfl

theorem Own.mono {k : IntKind} {t : TypeId} {base base' : Nat} {w : World} {v : Value} {xs : List Int} (h : Own k t base w v xs) (hb : base' ≤ base) : Own k t base' w v xs := by
  rcases h with h | ⟨g, hv, hbg, hk⟩
  · exact Or.inl h
  · exact Or.inr ⟨g, hv, Nat.le_trans hb hbg, hk⟩
theorem Blk.alloc2 {w : World} {g : Nat} {t : TypeId} {cs : List Value} (h : Blk w g t cs) (o o' : Obj) : Blk ((w.alloc o).alloc o') g t cs := (h.alloc o).alloc o'
theorem new_node (w : World) (o : Obj) (id : Int) (rv : Value) (st : Int) (tv : Value) (c0 c1 c2 c3 c4 : Int) : Blk ((w.alloc o).alloc (Obj.cells #[.int .i64 id, rv, .int .u8 st, tv, .int .u64 c0, .int .u64 c1, .int .u64 c2, .int .u64 c3, .int .u64 c4] 62)) (w.heap.size + 1) 62 (nd id rv st tv c0 c1 c2 c3 c4) := by
  have := Blk.new (w.alloc o) 62 (nd id rv st tv c0 c1 c2 c3 c4)
  rw [show (w.alloc o).heap.size = w.heap.size + 1 by simp] at this
  exact this
theorem new_tok (w : World) (o : Obj) (lv qv : Value) (gr : Int) : Blk ((w.alloc (Obj.cells #[lv, qv, .int .u64 gr] 55)).alloc o) w.heap.size 55 (tk lv qv gr) := (Blk.new w 55 (tk lv qv gr)).alloc o

/-- The world ahead of the node's making: the caller's three copies (from block b0 on, below b1) and the node's three (from b1 on). -/
structure KSt (wz w : World) (b0 b1 : Nat) (i m n l : Nat) (qa qb : Option Addr) (rn ln q : List Int) (R0 L0 R L : Nat) : Prop where
  fse : Blk wz w.heap.size 4 (bl (fun j => inB q (j : Int)) (n + 1))
  fr0 : Blk wz R0 22 (rn.map (.int .u64))
  fl0 : Blk wz L0 22 (ln.map (.int .u64))
  fq0 : Own .i64 3 b0 wz (.slice qa m m) q
  fr : Blk wz R 22 (rn.map (.int .u64))
  fl : Blk wz L 22 (ln.map (.int .u64))
  fq : Own .i64 3 b1 wz (.slice qb m m) q
  lt0 : w.heap.size < b0 ∧ b0 ≤ R0 ∧ R0 < b1 ∧ b0 ≤ L0 ∧ L0 < b1 ∧ R0 ≠ L0 ∧ b1 ≤ R ∧ b1 ≤ L ∧ R ≠ L ∧ b1 ≤ wz.heap.size
  q0lt : ∀ b, (Value.slice qa m m).ownBlock = some b → b < b1
  bel : Below w.heap.size w wz

theorem set_at {rn ln ln' : List Int} {i : Nat} (h : ln' = ln.set i (rn.getD i 0)) (hl : i < ln'.length) : ln'.getD i 0 = rn.getD i 0 := by
  subst h
  rw [List.getD_eq_getElem?_getD, List.getElem?_set_self (by simpa using hl)]
  rfl

/-- The world behind handOn: the caller's copies as they were; how handOn ended (node N, token T), F the full queue. -/
structure KEnd (wz w : World) (b0 b1 : Nat) (i m n l : Nat) (qa : Option Addr) (rn ln ln' q : List Int) (R0 L0 R L N T : Nat) (c0 c1 c2 c3 c4 gr : Int) (e : Ending) (F : List Int) : Prop where
  fse : Blk wz w.heap.size 4 (bl (fun j => inB q (j : Int)) (n + 1))
  fr0 : Blk wz R0 22 (rn.map (.int .u64))
  fl0 : Blk wz L0 22 (ln.map (.int .u64))
  fq0 : Own .i64 3 b0 wz (.slice qa m m) q
  fr : Blk wz R 22 (rn.map (.int .u64))
  fl : Blk wz L 22 (ln'.map (.int .u64))
  lt : w.heap.size < b0
  bel : Below w.heap.size w wz
  fin : (F = [] ∧ e = .returned (.agg #[.slice none 0 0, .bool false, .int .u64 0]) ∧ Blk wz N 62 (nd ((i : Int) + 1) (.slice (some ⟨R, 0, none⟩) n n) 0 (.pointer (some ⟨T, 0, none⟩)) c0 c1 c2 c3 c4) ∧
      ∃ a cap, Blk wz T 55 (tk (.slice (some ⟨L, 0, none⟩) l l) (.slice a 0 cap) gr)) ∨
   ∃ x r M g cap cur, F = x :: r ∧ e = .returned (.agg #[.slice (some ⟨M, 0, none⟩) 1 1, .bool false, .int .u64 0]) ∧
      Blk wz M 57 [.int .u8 2, .int .i64 ((i : Int) + 1), .int .i64 x, .int .u64 0, .pointer (some ⟨T, 0, none⟩)] ∧
      Blk wz N 62 (nd ((i : Int) + 1) (.slice (some ⟨R, 0, none⟩) n n) 0 (.pointer none) c0 c1 (IntKind.u64.wrap (c2 + 1)) c3 c4) ∧
      Blk wz T 55 (tk (.slice (some ⟨L, 0, none⟩) l l) (.slice (some ⟨g, 0, none⟩) r.length cap) gr) ∧ Blk wz g 3 (r.map (.int .i64) ++ cur) ∧ r.length ≤ cap

theorem HEnd.kend {wz w w7 : World} {b0 b1 : Nat} {i m n l : Nat} {qa qb : Option Addr} {rn ln ln' q : List Int} {R0 L0 R L : Nat} {c0 c1 c2 c3 c4 gr : Int} {e : Ending} {F : List Int} {o o' : Obj}
    (h : HEnd (wz.heap.size + 1) wz.heap.size R L i n l (.slice qb m m) rn ln' c0 c1 c2 c3 c4 gr ((wz.alloc o).alloc o') e w7 F) (z : KSt wz w b0 b1 i m n l qa qb rn ln q R0 L0 R L) :
    KEnd w7 w b0 b1 i m n l qa rn ln ln' q R0 L0 R L (wz.heap.size + 1) wz.heap.size c0 c1 c2 c3 c4 gr e F := by
  obtain ⟨hR, hL, hb, h⟩ := h
  obtain ⟨t1, t2, t3, t4, t5, t6, t7, t8, t9, t10⟩ := z.lt0
  have hw : Below b1 wz w7 := by
    have h1 : Below b1 wz ((wz.alloc o).alloc o') := ((Below.refl _ _).alloc t10 o).alloc (by simp; omega) o'
    refine h1.trans (hb.below (by simp; omega) ?_)
    rintro k (rfl | rfl | rfl | hk)
    · omega
    · omega
    · omega
    · rcases z.fq with ⟨hv, _⟩ | ⟨g, hv, hbg, _⟩
      · rw [hv] at hk; simp [Value.ownBlock] at hk
      · rw [hv] at hk; simp [Value.ownBlock] at hk; omega
  refine ⟨z.fse.below hw (by omega), z.fr0.below hw t3, z.fl0.below hw t5, ?_, hR, hL, t1, z.bel.trans (hw.mono (by omega)), ?_⟩
  · rcases z.fq0 with h0 | ⟨g, hv, hbg, hk⟩
    · exact Or.inl h0
    · exact Or.inr ⟨g, hv, hbg, hk.below hw (z.q0lt g (by rw [hv]; rfl))⟩
  · rcases h with h | ⟨x, r, M, g, cap, cur, h1, h2, hM, h3, h4, h5, h6, h7⟩
    · exact Or.inl h
    · exact Or.inr ⟨x, r, M, g, cap, cur, h1, h2, h3, h4, h5, h6, h7⟩

/-- What the checks behind the release read: the marks of the old queue, RN, the token with its LN and its queue, the marks of the new queue. -/
structure Chk (wz w : World) (n l SE R0 L T IQ : Nat) (rn ln' q r : List Int) (qv : Value) (gr : Int) : Prop where
  fse : Blk wz SE 4 (bl (fun j => inB q (j : Int)) (n + 1))
  fr0 : Blk wz R0 22 (rn.map (.int .u64))
  fl : Blk wz L 22 (ln'.map (.int .u64))
  ft : Blk wz T 55 (tk (.slice (some ⟨L, 0, none⟩) l l) qv gr)
  fiq : Blk wz IQ 4 (bl (fun j => inB r (j : Int)) (n + 1))
  bel : Below w.heap.size w wz

theorem Chk.drewN {wz w : World} {n l SE R0 L T IQ : Nat} {rn ln' q r : List Int} {qv : Value} {gr : Int} (h : Chk wz w n l SE R0 L T IQ rn ln' q r qv gr) (k : Nat) : Chk (wz.drewN k) w n l SE R0 L T IQ rn ln' q r qv gr :=
  ⟨h.fse, h.fr0, h.fl, h.ft, h.fiq, ⟨h.bel.os, h.bel.tape, h.bel.output, h.bel.size, h.bel.block⟩⟩

theorem nodup_take {r : List Int} {u : Nat} (h : r.Nodup) (hu : u < r.length) : inB (r.take u) (r.getD u 0) = false := by
  rw [inB_false]
  intro hm
  rw [List.getD_eq_getElem?_getD, List.getElem?_eq_getElem hu] at hm
  simp only [Option.getD_some] at hm
  obtain ⟨j, hj, e⟩ := List.getElem_of_mem hm
  simp at hj
  rw [List.getElem_take] at e
  have := (List.getElem_inj h).1 e
  omega

/-- The message, the token's new queue, the output, the caller's copy of the old queue. -/
structure Ch2 (wz : World) (i m b0 g M O T : Nat) (qa : Option Addr) (q r : List Int) (cur : List Value) (x : Int) : Prop where
  fg : Blk wz g 3 (r.map (.int .i64) ++ cur)
  fm : Blk wz M 57 [.int .u8 2, .int .i64 ((i : Int) + 1), .int .i64 x, .int .u64 0, .pointer (some ⟨T, 0, none⟩)]
  fo : Blk wz O 45 [.slice (some ⟨M, 0, none⟩) 1 1, .bool false, .int .u64 0]
  fq : Own .i64 3 b0 wz (.slice qa m m) q

theorem Ch2.at {wz : World} {i m b0 g M O T : Nat} {qa : Option Addr} {q r : List Int} {cur : List Value} {x : Int} (h : Ch2 wz i m b0 g M O T qa q r cur x) {u : Nat} (hm : q.length = m) (hu : u < m) : ∃ Q0, qa = some ⟨Q0, 0, none⟩ ∧ wz.cell? ⟨Q0, u, none⟩ = some (.int .i64 (q.getD u 0)) := by
  obtain ⟨Q0, hv, _, hb⟩ := h.fq.pos (by omega)
  simp at hv
  refine ⟨Q0, hv.1, ?_⟩
  rw [hb.cell]; simp [List.getElem?_eq_getElem (show u < q.length by omega)]
theorem Chk.alloc2 {wz w : World} {n l SE R0 L T IQ : Nat} {rn ln' q r : List Int} {qv : Value} {gr : Int} {i m b0 g M O : Nat} {qa : Option Addr} {cur : List Value} {x : Int} (h : Chk wz w n l SE R0 L T IQ rn ln' q r qv gr) (h2 : Ch2 wz i m b0 g M O T qa q r cur x) (o : Obj) :
    Chk (wz.alloc o) w n l SE R0 L T IQ rn ln' q r qv gr ∧ Ch2 (wz.alloc o) i m b0 g M O T qa q r cur x := by
  refine ⟨⟨h.fse.alloc _, h.fr0.alloc _, h.fl.alloc _, h.ft.alloc _, h.fiq.alloc _, h.bel.alloc h.bel.size _⟩, h2.fg.alloc _, h2.fm.alloc _, h2.fo.alloc _, ?_⟩
  rcases h2.fq with h0 | ⟨g0, hv, hbg, hk⟩
  · exact Or.inl h0
  · exact Or.inr ⟨g0, hv, hbg, hk.alloc _⟩
theorem Ch2.drewN {wz : World} {i m b0 g M O T : Nat} {qa : Option Addr} {q r : List Int} {cur : List Value} {x : Int} (h : Ch2 wz i m b0 g M O T qa q r cur x) (k : Nat) : Ch2 (wz.drewN k) i m b0 g M O T qa q r cur x :=
  ⟨h.fg, h.fm, h.fo, h.fq⟩

theorem mem_law {rn ln' q r : List Int} {i n X : Nat} (h : fullQ rn ln' i q n = (X : Int) :: r) (j : Nat) (hj : j < n) (hji : j ≠ i) :
    (duB (rn.getD j 0) (ln'.getD j 0) = true → inB r ((j : Int) + 1) = true ∨ j + 1 = X) ∧ (inB r ((j : Int) + 1) = true ∨ j + 1 = X → inB q ((j : Int) + 1) = false → duB (rn.getD j 0) (ln'.getD j 0) = true) := by
  have hm := fullQ_mem rn ln' i q n ((j : Int) + 1)
  rw [h, List.mem_cons] at hm
  refine ⟨fun hd => ?_, fun ho hq => ?_⟩
  · rcases hm.2 (Or.inr ⟨j, hj, rfl, hji, hd⟩) with h1 | h1
    · right; omega
    · left; exact inB_iff.2 h1
  · rw [inB_false] at hq
    have h1 : (j : Int) + 1 = X ∨ (j : Int) + 1 ∈ r := by
      rcases ho with h2 | h2
      · right; exact inB_iff.1 h2
      · left; omega
    rcases hm.1 h1 with h2 | ⟨j', _, e, _, d⟩
    · exact absurd h2 hq
    · have : j' = j := by omega
      subst this; exact d

theorem pre_law {rn ln' q r : List Int} {i n X m : Nat} (h : fullQ rn ln' i q n = (X : Int) :: r) (hm : q.length = m) (h0 : ¬ m = 0) :
    ∃ q', q = (X : Int) :: q' ∧ Hid (∀ u, u + 1 < m → r.getD u 0 = q.getD (u + 1) 0) ∧ m ≤ r.length + 1 := by
  obtain ⟨ext, he⟩ := fullQ_pre rn ln' i q n
  rw [h] at he
  cases q with
  | nil => simp at hm; omega
  | cons y q' =>
    rw [List.cons_append, List.cons.injEq] at he
    obtain ⟨rfl, rfl⟩ := he
    refine ⟨q', rfl, ?_, by rw [List.length_append]; rw [List.length_cons] at hm; omega⟩
    intro u hu
    rw [List.length_cons] at hm
    rw [List.getD_cons_succ, List.getD_eq_getElem?_getD, List.getD_eq_getElem?_getD, List.getElem?_append_left (by omega)]

set_option maxRecDepth 100000 in
set_option maxHeartbeats 4000000 in
theorem keeps_main (i : Nat) (a1 : Option Addr) (len1 cap1 : Nat) (z1 : List Int) (st : Int) (a3 : Option Addr) (len3 cap3 : Nat) (z3 : List Int) (a4 : Option Addr) (len4 cap4 : Nat) (z4 : List Int) (gr c0 c1 c2 c3 c4 : Int) (w : World)
    (hr1 : IsRow .u64 w a1 len1 cap1 z1) (hr3 : IsRow .u64 w a3 len3 cap3 z3) (hr4 : IsRow .i64 w a4 len4 cap4 z4) (hi : i < len1) (h13 : len1 ≤ len3) (h3 : len3 ≤ 4096) (h4 : len4 ≤ 4096) :
    Calls Try.prog 6 #[.int .i64 ((i : Int) + 1), .slice a1 len1 cap1, .int .u8 st, .slice a3 len3 cap3, .slice a4 len4 cap4, .int .u64 gr, .int .u64 c0, .int .u64 c1, .int .u64 c2, .int .u64 c3, .int .u64 c4] w fun e w' => e = .returned (.bool true) ∧ Below w.heap.size w w' := by
  have H1 : Hid (IsRow .u64 w a1 len1 cap1 z1) := hr1
  have H3 : Hid (IsRow .u64 w a3 len3 cap3 z3) := hr3
  have H4 : Hid (IsRow .i64 w a4 len4 cap4 z4) := hr4
  clear hr1 hr3 hr4
  obtain ⟨i0, hi0, hz0, hz1, hz2⟩ := info_parts Try.info4
  go_enter Try.func6, Try.ntmps6
  go_wp2_with (first | (go_at_call 23; go_in) | (at_make; refine wpList_make_full _ rfl _ _ 38 rfl w.heap.size 4 i0 (.bool false) 1 Try.underlying38 hi0 hz0 hz1 .i64 .i64 _ _ (len1 + 1) rfl rfl (by omega) (by omega) (by rw [hz2]; omega) (by unfold maxLen; omega) (Nat.le_refl _) ?_; intro w1 hown1 hgrow1))
  obtain ⟨q, HQ⟩ : ∃ q, Hid (q = z4.take len4) := ⟨_, rfl⟩
  have hql : q.length = len4 := by rw [HQ.out]; exact H4.out.len.1
  have B0 : Hid (Blk w1 w.heap.size 4 (bl (fun j => inB (q.take 0) (j : Int)) (len1 + 1)) ∧ Below w.heap.size w w1) := by
    refine ⟨?_, (Below.refl _ _).grown hgrow1 (Nat.le_refl _) (by simp)⟩
    rw [List.take_zero, bl_nil]
    exact made_blk hown1
  clear hown1 hgrow1
  go_loopw [25] (fun t wr => ∃ k : Nat, k ≤ len4 ∧ t = .int .i64 k ∧ Below w.heap.size w wr ∧ Blk wr w.heap.size 4 (bl (fun j => inB (q.take k) (j : Int)) (len1 + 1)) ∧ Good len1 i (q.take k)) (fun t _ => len4 - (intOf t).toNat)
  case atStart => exact ⟨0, Nat.zero_le _, rfl, B0.out.2, B0.out.1, good_nil _ _⟩
  case round =>
    clear B0
    obtain ⟨k, hk, rfl, hbel, hse, hgood⟩ := hrel
    by_cases hlt : k < len4
    · as_aux_lemma =>
        obtain ⟨b, off, ha, hb, hc⟩ := H4.out.at (by omega)
        subst ha
        rw [← HQ.out] at hc
        obtain ⟨x, hcx, HX⟩ : ∃ x, wr.cell? ⟨b, off + k, none⟩ = some (.int .i64 x) ∧ Hid (x = q.getD k 0) := ⟨_, (hbel.cell (by exact hb)).trans (hc k hlt), rfl⟩
        clear hc
        have HT : Hid (q.take (k + 1) = q.take k ++ [x]) := by rw [HX.out]; exact take_snoc' (by omega)
        by_cases h1 : x < 1
        · clear hse hgood
          go_wp2
          go_ret
          exact ⟨rfl, hbel⟩
        · by_cases h2 : (len1 : Int) < x
          · clear hse hgood
            go_wp2
            go_ret
            exact ⟨rfl, hbel⟩
          · obtain ⟨X, rfl⟩ : ∃ X : Nat, x = (X : Int) := ⟨x.toNat, by omega⟩
            by_cases h5 : X = i + 1
            · subst h5
              clear hse hgood
              go_wp2
              go_ret
              exact ⟨rfl, hbel⟩
            · have hcs : wr.cell? ⟨w.heap.size, X, none⟩ = some (.bool (inB (q.take k) (X : Int))) := by rw [hse.cell, bl_at _ _ _ (by omega)]
              have hfs := hse.free X
              by_cases h6 : inB (q.take k) (X : Int) = true
              · rw [h6] at hcs
                clear hse hgood
                go_wp2
                go_ret
                exact ⟨rfl, hbel⟩
              · have h6' : inB (q.take k) (X : Int) = false := by simpa using h6
                rw [h6'] at hcs
                have R : Hid (Below w.heap.size w (wr.setCell ⟨w.heap.size, X, none⟩ (.bool true)) ∧ Blk (wr.setCell ⟨w.heap.size, X, none⟩ (.bool true)) w.heap.size 4 (bl (fun j => inB (q.take (k + 1)) (j : Int)) (len1 + 1)) ∧ Good len1 i (q.take (k + 1))) := by
                  rw [HT.out]
                  exact ⟨hbel.setCell (Nat.le_refl _) _, hse.mark, good_snoc hgood (by omega) (by omega) (by omega) h6'⟩
                clear hse hgood hbel h6 h6'
                go_wp2
                go_roundw
                case rel => exact ⟨k + 1, by omega, by go_num, R.out⟩
                case measure => simp [intOf]; omega
    · obtain rfl : k = len4 := by omega
      rw [List.take_of_length_le (by omega)] at hse hgood
      obtain ⟨rn, HRN⟩ : ∃ rn, Hid (rn = z1.take len1) := ⟨_, rfl⟩
      obtain ⟨ln, HLN⟩ : ∃ ln, Hid (ln = z3.take len3) := ⟨_, rfl⟩
      have hrl : rn.length = len1 := by rw [HRN.out]; exact H1.out.len.1
      have hll : ln.length = len3 := by rw [HLN.out]; exact H3.out.len.1
      have HG : Hid (Good len1 i q) := hgood
      have HB : Hid (Below w.heap.size w wr) := hbel
      have HSE : Hid (Blk wr w.heap.size 4 (bl (fun j => inB q (j : Int)) (len1 + 1))) := hse
      clear hgood hbel hse hlt hk
      go_wp2_with fail
      refine (cloneU64 a1 len1 cap1 z1 _ (H1.out.below HB.out) (by omega)).mono ?_
      rintro e w1 ⟨v1, rfl, ho1, hb1⟩
      rw [← HRN.out] at ho1
      obtain ⟨R0, hv1, hR0b, hR0⟩ := ho1.pos (by omega)
      rw [hrl] at hv1
      subst hv1
      have X1 : Hid (Below w.heap.size w w1) := HB.out.trans (hb1.mono HB.out.size)
      go_wp2_with fail
      refine (cloneU64 a3 len3 cap3 z3 _ (H3.out.below X1.out) (by omega)).mono ?_
      rintro e w2 ⟨v2, rfl, ho2, hb2⟩
      rw [← HLN.out] at ho2
      obtain ⟨L0, hv2, hL0b, hL0⟩ := ho2.pos (by omega)
      rw [hll] at hv2
      subst hv2
      have X2 : Hid (Below w.heap.size w w2) := X1.out.trans (hb2.mono X1.out.size)
      go_wp2_with fail
      refine (cloneInts a4 _ cap4 z4 _ (H4.out.below X2.out) (by omega)).mono ?_
      rintro e w3 ⟨v3, rfl, ho3, hb3⟩
      rw [← HQ.out] at ho3
      obtain ⟨qa, hv3, hq3, hqa⟩ := ho3.form
      rw [hql] at hv3 hqa
      subst hv3
      have X3 : Hid (Below w.heap.size w w3) := X2.out.trans (hb3.mono X2.out.size)
      go_wp2_with fail
      have Y1 : Hid (Own .u64 22 wr.heap.size w3 (.slice (some ⟨R0, 0, none⟩) len1 len1) rn) := (ho1.below hb2 (Nat.le_refl _)).below hb3 (Nat.le_refl _)
      have Y2 : Hid (Own .u64 22 w1.heap.size w3 (.slice (some ⟨L0, 0, none⟩) len3 len3) ln) := ho2.below hb3 (Nat.le_refl _)
      refine (cloneU64_own _ rn _ _ Y1.out (by omega)).mono ?_
      rintro e w4 ⟨v4, rfl, ho4, hb4⟩
      obtain ⟨R, hv4, hRb, hR⟩ := ho4.pos (by omega)
      rw [hrl] at hv4
      subst hv4
      go_wp2_with fail
      refine (cloneU64_own _ ln _ _ (Y2.out.below hb4 (Nat.le_refl _)) (by omega)).mono ?_
      rintro e w5 ⟨v5, rfl, ho5, hb5⟩
      obtain ⟨L, hv5, hLb, hL⟩ := ho5.pos (by omega)
      rw [hll] at hv5
      subst hv5
      go_wp2_with fail
      refine (cloneInts_own _ q _ _ ((ho3.below hb4 (Nat.le_refl _)).below hb5 (Nat.le_refl _)) (by omega)).mono ?_
      rintro e w6 ⟨v6, rfl, ho6, hb6⟩
      obtain ⟨qb, hv6, hq6, hqb⟩ := ho6.form
      rw [hql] at hv6
      subst hv6
      have hsz : wr.heap.size ≤ w1.heap.size ∧ w1.heap.size ≤ w2.heap.size ∧ w2.heap.size ≤ w3.heap.size ∧ w3.heap.size ≤ w4.heap.size ∧ w4.heap.size ≤ w5.heap.size ∧ w5.heap.size ≤ w6.heap.size := ⟨hb1.size, hb2.size, hb3.size, hb4.size, hb5.size, hb6.size⟩
      have Z : Hid (KSt w6 w wr.heap.size w3.heap.size i k len1 len3 qa qb rn ln q R0 L0 R L) := by
        have g1 := HSE.out.lt
        have g2 := hR0.lt
        have g3 := hL0.lt
        have g4 := hR.lt
        have g5 := hL.lt
        refine ⟨?_, ?_, ?_, ?_, ?_, ?_, ?_, ?_, ?_, ?_⟩
        · exact (((((HSE.out.below hb1 (by omega)).below hb2 (by omega)).below hb3 (by omega)).below hb4 (by omega)).below hb5 (by omega)).below hb6 (by omega)
        · exact ((((hR0.below hb2 (by omega)).below hb3 (by omega)).below hb4 (by omega)).below hb5 (by omega)).below hb6 (by omega)
        · exact (((hL0.below hb3 (by omega)).below hb4 (by omega)).below hb5 (by omega)).below hb6 (by omega)
        · exact (((ho3.below hb4 (Nat.le_refl _)).below hb5 (Nat.le_refl _)).below hb6 (Nat.le_refl _)).mono (Nat.le_trans hsz.1 hsz.2.1)
        · exact (hR.below hb5 (by omega)).below hb6 (by omega)
        · exact hL.below hb6 (by omega)
        · exact ho6.mono (Nat.le_trans hsz.2.2.2.1 hsz.2.2.2.2.1)
        · exact ⟨by omega, by omega, by omega, by omega, by omega, by omega, by omega, by omega, by omega, by omega⟩
        · exact fun b hb => (hq3 b hb).2.lt
        · exact ((X3.out.trans (hb4.mono X3.out.size)).trans (hb5.mono (by omega))).trans (hb6.mono (by omega))
      clear ho1 ho2 ho3 ho4 ho5 ho6 hb1 hb2 hb3 hb4 hb5 hb6 hR0b hL0b hR0 hL0 hRb hR hLb hL Y1 Y2 X1 X2 X3 hq3 hqa hq6 hqb HB HSE HRN HLN H1 H3 H4 HQ hsz
      go_wp2_with (first | (go_at_call 14; go_in) | (go_at_call 15; go_in))
      obtain ⟨ln', HL⟩ : ∃ ln', Hid (ln' = ln.set i (rn.getD i 0)) := ⟨_, rfl⟩
      have hll' : ln'.length = len3 := by rw [HL.out]; simpa using hll
      refine (zzHandOn (w6.heap.size + 1) w6.heap.size R L i len1 len3 (.slice qb k k) rn ln q ln' st c0 c1 c2 c3 c4 gr _ HL (new_node _ _ _ _ _ _ _ _ _ _ _) (new_tok _ _ _ _ _) (Z.out.fr.alloc2 _ _) (Z.out.fl.alloc2 _ _) (World.ownsRow.alloc (World.ownsRow.alloc (Z.out.fq.queue (by omega)) _) _) Z.out.lt0.2.2.2.2.2.2.2.2.1 hrl hll hi h13 h3 (by omega)).mono ?_
      rintro e w7 hE
      obtain ⟨b0, b1, hbb⟩ : ∃ b0 b1, b0 = wr.heap.size ∧ b1 = w3.heap.size := ⟨_, _, rfl, rfl⟩
      rw [← hbb.1, ← hbb.2] at Z
      have Z7 : Hid (KEnd w7 w b0 b1 i k len1 len3 qa rn ln ln' q R0 L0 R L (w6.heap.size + 1) w6.heap.size c0 c1 c2 c3 c4 gr e (fullQ rn ln' i q len1)) := hE.kend Z.out
      clear Z hE hbb hll
      generalize w6.heap.size = T at *
      clear w6 w5 w4 w3 w2 w1
      have HI : Hid (ln'.getD i 0 = rn.getD i 0) := set_at HL.out (by omega)
      clear HL
      obtain ⟨rI, cR0, cLi⟩ : ∃ rI, w7.cell? ⟨R0, i, none⟩ = some (.int .u64 rI) ∧ w7.cell? ⟨L, i, none⟩ = some (.int .u64 rI) := by
        refine ⟨rn.getD i 0, ?_, ?_⟩
        · rw [Z7.out.fr0.cell]; simp [List.getElem?_eq_getElem (show i < rn.length by omega)]
        · rw [Z7.out.fl.cell, ← HI.out]; simp [List.getElem?_eq_getElem (show i < ln'.length by omega)]
      have hLs : L < w7.heap.size := Z7.out.fl.lt
      have hR0s : R0 < w7.heap.size := Z7.out.fr0.lt
      have hi1 : (i : Int) < (len1 : Int) := by omega
      have hi3 : (i : Int) < (len3 : Int) := by omega
      rcases Z7.out.fin with ⟨hF, he, hN, a, cap, hT⟩ | ⟨x, r, M, g, cap, cur, hF, he, hM, hN, hT, hg, hcap⟩
      · as_aux_lemma =>
          subst he
          have cN3 : w7.cell? ⟨T + 1, 3, none⟩ = some (.pointer (some ⟨T, 0, none⟩)) := hN.cell 3
          have cT0 : w7.cell? ⟨T, 0, none⟩ = some (.slice (some ⟨L, 0, none⟩) len3 len3) := hT.cell 0
          have cT1 : w7.cell? ⟨T, 1, none⟩ = some (.slice a 0 cap) := hT.cell 1
          have hNs : T + 1 < w7.heap.size := hN.lt
          have hTs : T < w7.heap.size := hT.lt
          have qp := neq_tok
          have HT : Hid (Blk w7 T 55 (tk (.slice (some ⟨L, 0, none⟩) len3 len3) (.slice a 0 cap) gr)) := hT
          clear hN hT
          go_wp2_with (go_at_call 15; go_in)
          clear qp cN3
          go_quiet (fail)
          go_wp2_with (at_make; refine wpList_make_full _ rfl _ _ 38 rfl 0 4 i0 (.bool false) 1 Try.underlying38 hi0 hz0 hz1 .i64 .i64 _ _ (len1 + 1) rfl rfl (by omega) (by omega) (by rw [hz2]; omega) (by unfold maxLen; omega) (Nat.zero_le _) ?_; intro w8 hown8 hgrow8)
          have hq0 : q = [] := by
            obtain ⟨ext, h⟩ := fullQ_pre rn ln' i q len1
            rw [hF] at h
            exact (List.append_eq_nil_iff.1 h.symm).1
          subst hq0
          have hk0 : k = 0 := by simpa using hql.symm
          subst hk0
          have CH : Hid (Chk w8 w len1 len3 w.heap.size R0 L T (w7.heap.size + 1) rn ln' [] [] (.slice a 0 cap) gr) := by
            have hb8 := (((Below.refl w7.heap.size w7).alloc (Nat.le_refl _) (Obj.cells #[.slice none 0 0, .bool false, .int .u64 0] 45)).trans ⟨hgrow8.os, hgrow8.tape, hgrow8.output, hgrow8.size, fun j hj => hgrow8.block j (by simp; omega) (by simp)⟩)
            refine ⟨Z7.out.fse.below hb8 Z7.out.fse.lt, Z7.out.fr0.below hb8 Z7.out.fr0.lt, Z7.out.fl.below hb8 Z7.out.fl.lt, HT.out.below hb8 HT.out.lt, ?_, Z7.out.bel.trans (hb8.mono Z7.out.bel.size)⟩
            rw [bl_nil]
            have hm := made_blk hown8
            simp at hm
            exact hm
          have HD : Hid (∀ j, j < len1 → j ≠ i → duB (rn.getD j 0) (ln'.getD j 0) = false) := by
            intro j hj hji
            by_cases h : duB (rn.getD j 0) (ln'.getD j 0) = true
            · have := (fullQ_mem rn ln' i [] len1 ((j : Int) + 1)).2 (Or.inr ⟨j, hj, rfl, hji, h⟩)
              rw [hF] at this
              simp at this
            · simpa using h
          have cT1' : w8.cell? ⟨T, 1, none⟩ = some (.slice a 0 cap) := CH.out.ft.cell 1
          clear Z7 hown8 hgrow8 cR0 cLi cT0 cT1 hF HI
          refine wp_loop_rounds 1 ?_
          rw [rounds_succ]
          go_wp2
          refine wp_loop_rounds 1 ?_
          rw [rounds_succ]
          go_wp2
          go_loopw [39] (fun t wr => ∃ j : Nat, j ≤ len1 ∧ t = .int .i64 ((j : Int) + 1) ∧ Chk wr w len1 len3 w.heap.size R0 L T (w7.heap.size + 1) rn ln' [] [] (.slice a 0 cap) gr) (fun t _ => len1 + 1 - (intOf t).toNat)
          case atStart => exact ⟨0, Nat.zero_le _, rfl, CH.out⟩
          case round =>
            clear CH cT1'
            obtain ⟨j, hj, rfl, ch⟩ := hrel
            by_cases hjl : j < len1
            · by_cases hji : j = i
              · subst hji
                go_wp2
                go_roundw
                case rel => exact ⟨j + 1, by omega, by go_num, ch⟩
                case measure => simp [intOf]; omega
              · obtain ⟨ra, cRj, HRj⟩ : ∃ ra, wr.cell? ⟨R0, j, none⟩ = some (.int .u64 ra) ∧ Hid (ra = rn.getD j 0) := ⟨rn.getD j 0, by rw [ch.fr0.cell]; simp [List.getElem?_eq_getElem (show j < rn.length by omega)], rfl⟩
                obtain ⟨la, cLj, HLj⟩ : ∃ la, wr.cell? ⟨L, j, none⟩ = some (.int .u64 la) ∧ Hid (la = ln'.getD j 0) := ⟨ln'.getD j 0, by rw [ch.fl.cell]; simp [List.getElem?_eq_getElem (show j < ln'.length by omega)], rfl⟩
                have cT0 : wr.cell? ⟨T, 0, none⟩ = some (.slice (some ⟨L, 0, none⟩) len3 len3) := ch.ft.cell 0
                have cIQ : wr.cell? ⟨w7.heap.size + 1, j + 1, none⟩ = some (.bool false) := by rw [ch.fiq.cell, bl_at _ _ _ (by omega)]; rfl
                have hbu : (ra == IntKind.u64.wrap (la + 1)) = false := by have := HD.out j hjl hji; rw [← HRj.out, ← HLj.out] at this; exact this
                have hj1 : (j : Int) < (len1 : Int) := by omega
                have hj3 : (j : Int) < (len3 : Int) := by omega
                have HCH : Hid (Chk wr w len1 len3 w.heap.size R0 L T (w7.heap.size + 1) rn ln' [] [] (.slice a 0 cap) gr) := ch
                clear ch HRj HLj
                go_wp2
                go_quiet (fail)
                go_wp2
                go_roundw
                case rel => (repeat apply Exists.intro); exact ⟨⟨j + 1, by omega, by go_num, HCH.out.drewN _⟩, rfl⟩
                case measure => simp [intOf]; omega
            · have hbel := ch.bel
              clear ch
              go_wp2
              go_ret
              exact ⟨rfl, hbel⟩
      · subst he
        have cN3 : w7.cell? ⟨T + 1, 3, none⟩ = some (.pointer none) := hN.cell 3
        have cT0 : w7.cell? ⟨T, 0, none⟩ = some (.slice (some ⟨L, 0, none⟩) len3 len3) := hT.cell 0
        have cT1 : w7.cell? ⟨T, 1, none⟩ = some (.slice (some ⟨g, 0, none⟩) r.length cap) := hT.cell 1
        have cM4 : w7.cell? ⟨M, 4, none⟩ = some (.pointer (some ⟨T, 0, none⟩)) := hM.cell 4
        have hNs : T + 1 < w7.heap.size := hN.lt
        have hTs : T < w7.heap.size := hT.lt
        have hMs : M < w7.heap.size := hM.lt
        have qp := neq_tok
        have HT : Hid (Blk w7 T 55 (tk (.slice (some ⟨L, 0, none⟩) len3 len3) (.slice (some ⟨g, 0, none⟩) r.length cap) gr)) := hT
        have HM : Hid (Blk w7 M 57 [.int .u8 2, .int .i64 ((i : Int) + 1), .int .i64 x, .int .u64 0, .pointer (some ⟨T, 0, none⟩)]) := hM
        have HGB : Hid (Blk w7 g 3 (r.map (.int .i64) ++ cur)) := hg
        have hrl8 : r.length ≤ 8192 := by
          have h1 := (fullQ_len rn ln' i q len1).1
          rw [hF, List.length_cons] at h1
          omega
        have HF : Hid (fullQ rn ln' i q len1 = x :: r) := hF
        clear hN hT hM hg hF
        go_wp2_with (go_at_call 15; go_in)
        clear qp cN3
        go_quiet (fail)
        go_wp2_with (at_make; refine wpList_make_full _ rfl _ _ 38 rfl 0 4 i0 (.bool false) 1 Try.underlying38 hi0 hz0 hz1 .i64 .i64 _ _ (len1 + 1) rfl rfl (by omega) (by omega) (by rw [hz2]; omega) (by unfold maxLen; omega) (Nat.zero_le _) ?_; intro w8 hown8 hgrow8)
        have HG' : Hid (Good len1 i (x :: r)) := by rw [← HF.out]; exact fullQ_good _ _ _ _ _ HG.out
        have CH : Hid (Chk w8 w len1 len3 w.heap.size R0 L T (w7.heap.size + 1) rn ln' q (r.take 0) (.slice (some ⟨g, 0, none⟩) r.length cap) gr ∧ Ch2 w8 i k b0 g M w7.heap.size T qa q r cur x) := by
          have hb8 := (((Below.refl w7.heap.size w7).alloc (Nat.le_refl _) (Obj.cells #[.slice (some ⟨M, 0, none⟩) 1 1, .bool false, .int .u64 0] 45)).trans ⟨hgrow8.os, hgrow8.tape, hgrow8.output, hgrow8.size, fun j hj => hgrow8.block j (by simp; omega) (by simp)⟩)
          refine ⟨⟨Z7.out.fse.below hb8 Z7.out.fse.lt, Z7.out.fr0.below hb8 Z7.out.fr0.lt, Z7.out.fl.below hb8 Z7.out.fl.lt, HT.out.below hb8 HT.out.lt, ?_, Z7.out.bel.trans (hb8.mono Z7.out.bel.size)⟩, HGB.out.below hb8 HGB.out.lt, HM.out.below hb8 HM.out.lt, ?_, Z7.out.fq0.below hb8 (Nat.le_refl _)⟩
          · rw [List.take_zero, bl_nil]
            have hm := made_blk hown8
            simp at hm
            exact hm
          · have h1 := Blk.new w7 45 [.slice (some ⟨M, 0, none⟩) 1 1, .bool false, .int .u64 0]
            unfold Blk
            rw [hgrow8.block w7.heap.size (by simp) (by simp)]
            exact h1
        have hSE : w.heap.size < w7.heap.size := Nat.lt_of_lt_of_le Z7.out.fse.lt (Nat.le_refl _)
        clear Z7 hown8 hgrow8 cR0 cLi cT0 cT1 HI HT HM HGB cM4
        go_loopw [33] (fun t wr => ∃ u : Nat, u ≤ r.length ∧ t = .int .i64 u ∧ Chk wr w len1 len3 w.heap.size R0 L T (w7.heap.size + 1) rn ln' q (r.take u) (.slice (some ⟨g, 0, none⟩) r.length cap) gr ∧ Ch2 wr i k b0 g M w7.heap.size T qa q r cur x) (fun t _ => r.length - (intOf t).toNat)
        case atStart => exact ⟨0, Nat.zero_le _, rfl, CH.out⟩
        case round =>
          clear CH
          obtain ⟨u, hu, rfl, ch, c2⟩ := hrel
          have cT1 : wr.cell? ⟨T, 1, none⟩ = some (.slice (some ⟨g, 0, none⟩) r.length cap) := ch.ft.cell 1
          by_cases hlt : u < r.length
          · as_aux_lemma =>
              obtain ⟨Y, cY, HY, hy1, hy2, hy3, HY4⟩ : ∃ Y : Nat, wr.cell? ⟨g, u, none⟩ = some (.int .i64 (Y : Int)) ∧ Hid ((Y : Int) = r.getD u 0) ∧ ¬ (Y : Int) < 1 ∧ ¬ (len1 : Int) < (Y : Int) ∧ ¬ Y = i + 1 ∧ Hid (inB (r.take u) (Y : Int) = false) := by
                have hlt' : u + 1 < (x :: r).length := by simpa using hlt
                have hmem : r.getD u 0 ∈ x :: r := by rw [List.getD_eq_getElem?_getD, List.getElem?_eq_getElem hlt]; exact List.mem_cons_of_mem _ (List.getElem_mem hlt)
                have hgd := HG'.out.1 _ hmem
                refine ⟨(r.getD u 0).toNat, ?_, by show _ = _; omega, by omega, by omega, by omega, ?_⟩
                · rw [c2.fg.cell, List.getElem?_append_left (by simpa using hlt), List.getElem?_map, List.getElem?_eq_getElem hlt]
                  rw [List.getD_eq_getElem?_getD, List.getElem?_eq_getElem hlt] at hgd ⊢
                  simp only [Option.map_some, Option.getD_some] at hgd ⊢
                  rw [show ((r[u].toNat : Nat) : Int) = r[u] by omega]
                · show _ = _
                  rw [show (((r.getD u 0).toNat : Nat) : Int) = r.getD u 0 by omega]
                  exact nodup_take (List.nodup_cons.1 HG'.out.2).2 hlt
              have cIQ : wr.cell? ⟨w7.heap.size + 1, Y, none⟩ = some (.bool false) := by rw [ch.fiq.cell, bl_at _ _ _ (by omega), HY4.out]
              have fIQ := ch.fiq.free Y
              have R : Hid (Chk (wr.setCell ⟨w7.heap.size + 1, Y, none⟩ (.bool true)) w len1 len3 w.heap.size R0 L T (w7.heap.size + 1) rn ln' q (r.take (u + 1)) (.slice (some ⟨g, 0, none⟩) r.length cap) gr ∧ Ch2 (wr.setCell ⟨w7.heap.size + 1, Y, none⟩ (.bool true)) i k b0 g M w7.heap.size T qa q r cur x) := by
                have hT : r.take (u + 1) = r.take u ++ [(Y : Int)] := by rw [HY.out]; exact take_snoc' hlt
                rw [hT]
                refine ⟨⟨ch.fse.other (by show w.heap.size ≠ w7.heap.size + 1; omega) _, ch.fr0.other (ch.fr0.ne ch.fiq (by decide)) _, ch.fl.other (ch.fl.ne ch.fiq (by decide)) _, ch.ft.other (ch.ft.ne ch.fiq (by decide)) _, ch.fiq.mark, ch.bel.setCell (by show w.heap.size ≤ w7.heap.size + 1; omega) _⟩, c2.fg.other (c2.fg.ne ch.fiq (by decide)) _, c2.fm.other (c2.fm.ne ch.fiq (by decide)) _, c2.fo.other (c2.fo.ne ch.fiq (by decide)) _, ?_⟩
                rcases c2.fq with h0 | ⟨g0, hv, hbg, hk⟩
                · exact Or.inl h0
                · exact Or.inr ⟨g0, hv, hbg, hk.other (hk.ne ch.fiq (by decide)) _⟩
              clear ch c2 HY HY4
              go_wp2
              go_roundw
              case rel => first | exact ⟨u + 1, by omega, by go_num, R.out⟩ | ((repeat apply Exists.intro); exact ⟨⟨u + 1, by omega, by go_num, R.out⟩, rfl⟩)
              case measure => simp [intOf]; omega
          · obtain rfl : u = r.length := by omega
            rw [List.take_length] at ch
            have hgx := HG'.out.1 x (List.mem_cons_self ..)
            have hnx := (List.nodup_cons.1 HG'.out.2).1
            obtain ⟨X, rfl⟩ : ∃ X : Nat, x = (X : Int) := ⟨x.toNat, by omega⟩
            obtain ⟨hx1, hx2, hx3⟩ : ¬ (X : Int) < 1 ∧ ¬ (len1 : Int) < (X : Int) ∧ ¬ X = i + 1 := ⟨by omega, by omega, by omega⟩
            have cIX : wr.cell? ⟨w7.heap.size + 1, X, none⟩ = some (.bool false) := by rw [ch.fiq.cell, bl_at _ _ _ (by omega), inB_false.2 hnx]
            have cO0 : wr.cell? ⟨w7.heap.size, 0, none⟩ = some (.slice (some ⟨M, 0, none⟩) 1 1) := c2.fo.cell 0
            have cM0 : wr.cell? ⟨M, 0, none⟩ = some (.int .u8 2) := c2.fm.cell 0
            have cM1 : wr.cell? ⟨M, 1, none⟩ = some (.int .i64 ((i : Int) + 1)) := c2.fm.cell 1
            have cM2 : wr.cell? ⟨M, 2, none⟩ = some (.int .i64 (X : Int)) := c2.fm.cell 2
            have cM3 : wr.cell? ⟨M, 3, none⟩ = some (.int .u64 0) := c2.fm.cell 3
            have cM4 : wr.cell? ⟨M, 4, none⟩ = some (.pointer (some ⟨T, 0, none⟩)) := c2.fm.cell 4
            have sM : M < wr.heap.size := c2.fm.lt
            have sO : w7.heap.size < wr.heap.size := c2.fo.lt
            have sI : w7.heap.size + 1 < wr.heap.size := ch.fiq.lt
            have CHB : Hid (Chk wr w len1 len3 w.heap.size R0 L T (w7.heap.size + 1) rn ln' q r (.slice (some ⟨g, 0, none⟩) r.length cap) gr ∧ Ch2 wr i k b0 g M w7.heap.size T qa q r cur (X : Int)) := ⟨ch, c2⟩
            clear ch c2 hgx hnx
            go_wp2
            have CHC : Hid (Chk (wr.alloc (Obj.cells #[.int .u8 2, .int .i64 ((i : Int) + 1), .int .i64 (X : Int), .int .u64 0, .pointer (some ⟨T, 0, none⟩)] 57)) w len1 len3 w.heap.size R0 L T (w7.heap.size + 1) rn ln' q r (.slice (some ⟨g, 0, none⟩) r.length cap) gr ∧ Ch2 (wr.alloc (Obj.cells #[.int .u8 2, .int .i64 ((i : Int) + 1), .int .i64 (X : Int), .int .u64 0, .pointer (some ⟨T, 0, none⟩)] 57)) i k b0 g M w7.heap.size T qa q r cur (X : Int)) := CHB.out.1.alloc2 CHB.out.2 _
            clear CHB cIX cO0 cM0 cM1 cM2 cM3 cM4 sM sO sI cT1
            generalize wr.alloc (Obj.cells #[.int .u8 2, .int .i64 ((i : Int) + 1), .int .i64 (X : Int), .int .u64 0, .pointer (some ⟨T, 0, none⟩)] 57) = w9 at CHC ⊢
            go_loop [37] (fun t => ∃ u : Nat, u ≤ k ∧ t = .int .i64 u) (fun t => k - (intOf t).toNat)
            case atStart => exact ⟨0, Nat.zero_le _, rfl⟩
            case round =>
              obtain ⟨u, hu, rfl⟩ := hrel
              by_cases hlt : u < k
              · obtain ⟨Q0, hqa, cY0⟩ : ∃ Q0, qa = some ⟨Q0, 0, none⟩ ∧ w9.cell? ⟨Q0, u, none⟩ = some (.int .i64 (q.getD u 0)) := CHC.out.2.at (by omega) (by omega)
                subst hqa
                obtain ⟨Y, HY, hy1, hy2⟩ : ∃ Y : Nat, Hid (q.getD u 0 = (Y : Int)) ∧ Y ≤ len1 ∧ Hid ((Y : Int) = X ∨ inB r (Y : Int) = true) := by
                  have hmem : q.getD u 0 ∈ q := by rw [List.getD_eq_getElem?_getD, List.getElem?_eq_getElem (show u < q.length by omega)]; exact List.getElem_mem _
                  have hgd := HG.out.1 _ hmem
                  have hm2 : q.getD u 0 ∈ (X : Int) :: r := by rw [← HF.out, fullQ_mem]; exact Or.inl hmem
                  refine ⟨(q.getD u 0).toNat, by show _ = _; omega, by omega, ?_⟩
                  rw [show (((q.getD u 0).toNat : Nat) : Int) = q.getD u 0 by omega]
                  rcases List.mem_cons.1 hm2 with h | h
                  · exact Or.inl h
                  · exact Or.inr (inB_iff.2 h)
                rw [HY.out] at cY0
                by_cases hyx : Y = X
                · subst hyx
                  go_wp2
                  go_round
                  case rel => first | exact ⟨u + 1, by omega, by go_num⟩ | ((repeat apply Exists.intro); exact ⟨⟨u + 1, by omega, by go_num⟩, rfl⟩)
                  case measure => simp [intOf]; omega
                · as_aux_lemma =>
                    have cIY : w9.cell? ⟨w7.heap.size + 1, Y, none⟩ = some (.bool true) := by
                      rw [CHC.out.1.fiq.cell, bl_at _ _ _ (by omega)]
                      rcases hy2.out with h | h
                      · omega
                      · rw [h]
                    go_wp2
                    go_round
                    case rel => first | exact ⟨u + 1, by omega, by go_num⟩ | ((repeat apply Exists.intro); exact ⟨⟨u + 1, by omega, by go_num⟩, rfl⟩)
                    case measure => simp [intOf]; omega
              · have HD : Hid (∀ j, j < len1 → j ≠ i → (duB (rn.getD j 0) (ln'.getD j 0) = true → inB r ((j : Int) + 1) = true ∨ j + 1 = X) ∧ (inB r ((j : Int) + 1) = true ∨ j + 1 = X → inB q ((j : Int) + 1) = false → duB (rn.getD j 0) (ln'.getD j 0) = true)) := mem_law HF.out
                go_wp2
                clear hu hlt
                have CH : Hid (Chk w9 w len1 len3 w.heap.size R0 L T (w7.heap.size + 1) rn ln' q r (.slice (some ⟨g, 0, none⟩) r.length cap) gr ∧ Ch2 w9 i k b0 g M w7.heap.size T qa q r cur (X : Int)) := CHC.out
                clear CHC
                go_loopw [39] (fun t wr => ∃ j : Nat, j ≤ len1 ∧ t = .int .i64 ((j : Int) + 1) ∧ Chk wr w len1 len3 w.heap.size R0 L T (w7.heap.size + 1) rn ln' q r (.slice (some ⟨g, 0, none⟩) r.length cap) gr ∧ Ch2 wr i k b0 g M w7.heap.size T qa q r cur (X : Int)) (fun t _ => len1 + 1 - (intOf t).toNat)
                case atStart => exact ⟨0, Nat.zero_le _, rfl, CH.out⟩
                case round =>
                  clear CH
                  obtain ⟨j, hj, rfl, ch, c2⟩ := hrel
                  by_cases hjl : j < len1
                  · by_cases hji : j = i
                    · subst hji
                      go_wp2
                      go_roundw
                      case rel => first | exact ⟨j + 1, by omega, by go_num, ch, c2⟩ | ((repeat apply Exists.intro); exact ⟨⟨j + 1, by omega, by go_num, ch, c2⟩, rfl⟩)
                      case measure => simp [intOf]; omega
                    · obtain ⟨ra, cRj, HRj⟩ : ∃ ra, wr.cell? ⟨R0, j, none⟩ = some (.int .u64 ra) ∧ Hid (ra = rn.getD j 0) := ⟨rn.getD j 0, by rw [ch.fr0.cell]; simp [List.getElem?_eq_getElem (show j < rn.length by omega)], rfl⟩
                      obtain ⟨la, cLj, HLj⟩ : ∃ la, wr.cell? ⟨L, j, none⟩ = some (.int .u64 la) ∧ Hid (la = ln'.getD j 0) := ⟨ln'.getD j 0, by rw [ch.fl.cell]; simp [List.getElem?_eq_getElem (show j < ln'.length by omega)], rfl⟩
                      have cT0 : wr.cell? ⟨T, 0, none⟩ = some (.slice (some ⟨L, 0, none⟩) len3 len3) := ch.ft.cell 0
                      obtain ⟨bq, cSE, HBQ⟩ : ∃ bq, wr.cell? ⟨w.heap.size, j + 1, none⟩ = some (.bool bq) ∧ Hid (bq = inB q ((j : Int) + 1)) := ⟨inB q (((j + 1 : Nat)) : Int), by rw [ch.fse.cell, bl_at _ _ _ (by omega)], rfl⟩
                      obtain ⟨br, cIQ, HBR⟩ : ∃ br, wr.cell? ⟨w7.heap.size + 1, j + 1, none⟩ = some (.bool br) ∧ Hid (br = inB r ((j : Int) + 1)) := ⟨inB r (((j + 1 : Nat)) : Int), by rw [ch.fiq.cell, bl_at _ _ _ (by omega)], rfl⟩
                      obtain ⟨bu, hbu, HBU⟩ : ∃ bu, (ra == IntKind.u64.wrap (la + 1)) = bu ∧ Hid (bu = duB (rn.getD j 0) (ln'.getD j 0)) := ⟨_, rfl, by rw [HRj.out, HLj.out]; rfl⟩
                      have HK := HD.out j hjl hji
                      rw [← HBU.out, ← HBQ.out, ← HBR.out] at HK
                      have hj1 : (j : Int) < (len1 : Int) := by omega
                      have hj3 : (j : Int) < (len3 : Int) := by omega
                      have HCH : Hid (Chk wr w len1 len3 w.heap.size R0 L T (w7.heap.size + 1) rn ln' q r (.slice (some ⟨g, 0, none⟩) r.length cap) gr ∧ Ch2 wr i k b0 g M w7.heap.size T qa q r cur (X : Int)) := ⟨ch, c2⟩
                      clear ch c2 HRj HLj HBQ HBR HBU
                      obtain ⟨HK1, HK2⟩ := HK
                      by_cases hjx : j + 1 = X
                      · as_aux_lemma =>
                          subst hjx
                          have hb3 : br = br := rfl
                          have HKK : Hid (bq = false → bu = true) := fun h => HK2 (Or.inr rfl) h
                          clear HK1 HK2 hb3
                          cases bu <;> cases bq <;> cases br <;> first | (exact absurd (HKK.out rfl) (by decide)) | (go_wp2; go_quiet (fail); go_wp2; go_roundw; (case rel => first | exact ⟨j + 1, by omega, by go_num, HCH.out.1.drewN _, HCH.out.2.drewN _⟩ | ((repeat apply Exists.intro); exact ⟨⟨j + 1, by omega, by go_num, HCH.out.1.drewN _, HCH.out.2.drewN _⟩, rfl⟩)); (case measure => simp [intOf]; omega))
                      · as_aux_lemma =>
                          have HKA : Hid (bu = true → br = true) := fun h => (HK1 h).resolve_right hjx
                          have HKB : Hid (br = true → bq = false → bu = true) := fun h => HK2 (Or.inl h)
                          clear HK1 HK2
                          cases bu <;> cases bq <;> cases br <;> first | (exact absurd (HKA.out rfl) (by decide)) | (exact absurd (HKB.out rfl rfl) (by decide)) | (go_wp2; go_quiet (fail); go_wp2; go_roundw; (case rel => first | exact ⟨j + 1, by omega, by go_num, HCH.out.1.drewN _, HCH.out.2.drewN _⟩ | ((repeat apply Exists.intro); exact ⟨⟨j + 1, by omega, by go_num, HCH.out.1.drewN _, HCH.out.2.drewN _⟩, rfl⟩)); (case measure => simp [intOf]; omega))
                  · by_cases hk0 : k = 0
                    · subst hk0
                      have hbel := ch.bel
                      clear ch c2
                      go_wp2
                      go_ret
                      exact ⟨rfl, hbel⟩
                    · as_aux_lemma =>
                        obtain ⟨q', hq', hrq⟩ : ∃ q', q = (X : Int) :: q' ∧ Hid (∀ u, u + 1 < k → r.getD u 0 = q.getD (u + 1) 0) ∧ k ≤ r.length + 1 := pre_law HF.out hql hk0
                        obtain ⟨Q0, hqa, cQ0⟩ : ∃ Q0, qa = some ⟨Q0, 0, none⟩ ∧ wr.cell? ⟨Q0, 0, none⟩ = some (.int .i64 (q.getD 0 0)) := c2.at hql (by omega)
                        subst hqa
                        rw [hq', List.getD_cons_zero] at cQ0
                        have cT1 : wr.cell? ⟨T, 1, none⟩ = some (.slice (some ⟨g, 0, none⟩) r.length cap) := ch.ft.cell 1
                        obtain ⟨HRQ, hkr⟩ := hrq
                        have CH : Hid (Chk wr w len1 len3 w.heap.size R0 L T (w7.heap.size + 1) rn ln' q r (.slice (some ⟨g, 0, none⟩) r.length cap) gr ∧ Ch2 wr i k b0 g M w7.heap.size T (some ⟨Q0, 0, none⟩) q r cur (X : Int)) := ⟨ch, c2⟩
                        clear hq' ch c2
                        go_wp2
                        clear cQ0 cT1
                        go_loopw [42] (fun t wq => ∃ u : Nat, u + 1 ≤ k ∧ t = .int .i64 ((u : Int) + 1) ∧ Chk wq w len1 len3 w.heap.size R0 L T (w7.heap.size + 1) rn ln' q r (.slice (some ⟨g, 0, none⟩) r.length cap) gr ∧ Ch2 wq i k b0 g M w7.heap.size T (some ⟨Q0, 0, none⟩) q r cur (X : Int)) (fun t _ => k - (intOf t).toNat)
                        case atStart => exact ⟨0, by omega, rfl, CH.out⟩
                        case round =>
                          clear CH
                          obtain ⟨u, hu, rfl, ch, c2⟩ := hrel
                          by_cases hlt : u + 1 < k
                          · as_aux_lemma =>
                              obtain ⟨z, cz1, cz2⟩ : ∃ z, wr.cell? ⟨g, u, none⟩ = some (.int .i64 z) ∧ wr.cell? ⟨Q0, u + 1, none⟩ = some (.int .i64 z) := by
                                refine ⟨r.getD u 0, ?_, ?_⟩
                                · rw [c2.fg.cell, List.getElem?_append_left (by simp; omega)]
                                  simp [List.getElem?_eq_getElem (show u < r.length by omega)]
                                · rw [HRQ.out u hlt]
                                  obtain ⟨Q1, e, c⟩ := c2.at hql hlt
                                  simp at e
                                  subst e
                                  exact c
                              have cT1 : wr.cell? ⟨T, 1, none⟩ = some (.slice (some ⟨g, 0, none⟩) r.length cap) := ch.ft.cell 1
                              have hu1 : (u : Int) < (r.length : Int) := by omega
                              have hu2 : (u : Int) + 1 < (k : Int) := by omega
                              have HCH : Hid (Chk wr w len1 len3 w.heap.size R0 L T (w7.heap.size + 1) rn ln' q r (.slice (some ⟨g, 0, none⟩) r.length cap) gr ∧ Ch2 wr i k b0 g M w7.heap.size T (some ⟨Q0, 0, none⟩) q r cur (X : Int)) := ⟨ch, c2⟩
                              clear ch c2
                              go_wp2
                              go_quiet (fail)
                              go_wp2
                              go_roundw
                              case rel => first | exact ⟨u + 1, by omega, by go_num, HCH.out.1.drewN _, HCH.out.2.drewN _⟩ | ((repeat apply Exists.intro); exact ⟨⟨u + 1, by omega, by go_num, HCH.out.1.drewN _, HCH.out.2.drewN _⟩, rfl⟩)
                              case measure => simp [intOf]; omega
                          · have hbel := ch.bel
                            clear ch c2
                            go_wp2
                            go_ret
                            exact ⟨rfl, hbel⟩
end Go.Proofs.Qxb6602866a

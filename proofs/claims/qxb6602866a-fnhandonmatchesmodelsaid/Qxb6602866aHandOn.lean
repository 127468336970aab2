/-
  The contract of handOn (function 25).
-/
import Derived.Test.Qxb6602866aOutst
import Derived.Test.Qxb6602866aPass
import Derived.Test.Qxb6602866aCont
import Derived.Deep.AppendLies
namespace Go.Proofs.Qxb6602866a
open Go.RowKit
set_option linter.unusedSimpArgs false
set_option linter.unusedVariables false

theorem Try.info3' : (Try.prog.info? 3).map (fun i => (i.zero, i.size, i.bytes)) = some (some (.int .i64 0), 1, 8) := by kernel_rfl

/-- Which blocks handOn may write among those that were there. -/
def Sof (N T L : Nat) (qv : Value) (k : Nat) : Prop := k = N ∨ k = T ∨ k = L ∨ qv.ownBlock = some k

/-- What holds at the head of each round of the scan, and behind it: the node idle, the token with the queue Q in v. -/
structure HSt (N T R L O i n l : Nat) (qv : Value) (rn ln : List Int) (c0 c1 c2 c3 c4 gr : Int) (w wr : World) (v : Value) (Q : List Int) : Prop where
  hN : Blk wr N 62 (nd ((i : Int) + 1) (.slice (some ⟨R, 0, none⟩) n n) 0 (.pointer (some ⟨T, 0, none⟩)) c0 c1 c2 c3 c4)
  hT : Blk wr T 55 (tk (.slice (some ⟨L, 0, none⟩) l l) v gr)
  hR : Blk wr R 22 (rn.map (.int .u64))
  hL : Blk wr L 22 (ln.map (.int .u64))
  hO : Blk wr O 45 [.slice none 0 0, .bool false, .int .u64 0]
  hQ : QIs wr v Q
  hq : ∀ g, v.ownBlock = some g → Sof N T L qv g ∨ w.heap.size ≤ g
  hb : But (Sof N T L qv) w wr

theorem QIs.ne {w : World} {v : Value} {Q : List Int} {g g' : Nat} {t : TypeId} {cs : List Value} (h : QIs w v Q) (hv : v.ownBlock = some g) (h' : Blk w g' t cs) (ht : t ≠ 3) : g ≠ g' := by
  rcases h.form with ⟨rfl, _⟩ | ⟨g1, cap, cur, rfl, hb, _⟩
  · simp [Value.ownBlock] at hv
  · simp [Value.ownBlock] at hv
    subst hv
    exact hb.ne h' (Ne.symm ht)

theorem HSt.drewN {N T R L O i n l : Nat} {qv : Value} {rn ln : List Int} {c0 c1 c2 c3 c4 gr : Int} {w wr : World} {v : Value} {Q : List Int} (h : HSt N T R L O i n l qv rn ln c0 c1 c2 c3 c4 gr w wr v Q) (k : Nat) : HSt N T R L O i n l qv rn ln c0 c1 c2 c3 c4 gr w (wr.drewN k) v Q :=
  ⟨h.hN, h.hT, h.hR, h.hL, h.hO, h.hQ, h.hq, h.hb.drewN k⟩

theorem HSt.push {N T R L O i n l : Nat} {qv : Value} {rn ln : List Int} {c0 c1 c2 c3 c4 gr : Int} {w wr : World} {v : Value} {Q : List Int} (h : HSt N T R L O i n l qv rn ln c0 c1 c2 c3 c4 gr w wr v Q)
    {x : Int} {o : Obj} {g cap : Nat} {w1 : World} (hown : w1.ownsRow 0 3 1 (.slice (some ⟨g, 0, none⟩) (Q.length + 1) cap) (Q.length + 1) (Q.map (Value.int .i64) ++ [.int .i64 x]))
    (hg : (wr.alloc o).grownBy w1 v.ownBlock) (hat : v.ownBlock = some g ∨ g = wr.heap.size + 1) :
    HSt N T R L O i n l qv rn ln c0 c1 c2 c3 c4 gr w (w1.setCell ⟨T, 1, none⟩ (.slice (some ⟨g, 0, none⟩) (Q.length + 1) cap)) (.slice (some ⟨g, 0, none⟩) (Q.length + 1) cap) (Q ++ [x]) := by
  have far : ∀ {b : Nat} {t : TypeId} {cs : List Value}, Blk wr b t cs → t ≠ 3 → Blk w1 b t cs := fun hb ht => (hb.alloc o).grown hg (fun e => h.hQ.ne e.symm hb ht rfl)
  have hT1 := far h.hT (by decide)
  have hown' : QIs w1 (.slice (some ⟨g, 0, none⟩) (Q.length + 1) cap) (Q ++ [x]) := by
    have e : (Q ++ [x]).length = Q.length + 1 := by simp
    unfold QIs; rw [e]; simpa using hown
  have hgT : g ≠ T := hown'.ne rfl hT1 (by decide)
  have nT : ∀ {b : Nat} {t : TypeId} {cs : List Value}, Blk w1 b t cs → t ≠ 55 → Blk (w1.setCell ⟨T, 1, none⟩ (.slice (some ⟨g, 0, none⟩) (Q.length + 1) cap)) b t cs := fun hb ht => hb.other (by have := hb.ne hT1 ht; exact this) _
  refine ⟨nT (far h.hN (by decide)) (by decide), hT1.set 1 _, nT (far h.hR (by decide)) (by decide), nT (far h.hL (by decide)) (by decide), nT (far h.hO (by decide)) (by decide), ?_, ?_, ?_⟩
  · exact ownsRow_setCell_other hown' (by simpa [Value.ownBlock] using hgT) _
  · intro g' hg'
    simp [Value.ownBlock] at hg'
    subst hg'
    rcases hat with hat | hat
    · exact h.hq _ hat
    · right; have := h.hb.size; omega
  · exact ((h.hb.alloc o).grown hg h.hq).setCell (by right; left; rfl) _

theorem HSt.tok1 {N T R L O i n l : Nat} {qv : Value} {rn ln : List Int} {c0 c1 c2 c3 c4 gr : Int} {w wr : World} {v : Value} {Q : List Int} (h : HSt N T R L O i n l qv rn ln c0 c1 c2 c3 c4 gr w wr v Q)
    {o : Obj} {w1 : World} (hg : (wr.alloc o).grownBy w1 v.ownBlock) : w1.cell? ⟨T, 1, none⟩ = some v ∧ w1.frozen? ⟨T, 1, none⟩ = false := by
  have hT1 := (h.hT.alloc o).grown hg (fun e => h.hQ.ne e.symm h.hT (by decide) rfl)
  exact ⟨hT1.cell 1, hT1.free 1⟩

/-- How the call of handOn ends, Q being the full queue: nobody waits: the node keeps the token; else the token goes to the head. -/
def HEnd (N T R L i n l : Nat) (qv : Value) (rn ln : List Int) (c0 c1 c2 c3 c4 gr : Int) (w : World) (e : Ending) (w' : World) (Q : List Int) : Prop :=
  Blk w' R 22 (rn.map (.int .u64)) ∧ Blk w' L 22 (ln.map (.int .u64)) ∧ But (Sof N T L qv) w w' ∧
  ((Q = [] ∧ e = .returned (.agg #[.slice none 0 0, .bool false, .int .u64 0]) ∧ Blk w' N 62 (nd ((i : Int) + 1) (.slice (some ⟨R, 0, none⟩) n n) 0 (.pointer (some ⟨T, 0, none⟩)) c0 c1 c2 c3 c4) ∧
      ∃ a cap, Blk w' T 55 (tk (.slice (some ⟨L, 0, none⟩) l l) (.slice a 0 cap) gr)) ∨
   ∃ x r M g cap cur, Q = x :: r ∧ e = .returned (.agg #[.slice (some ⟨M, 0, none⟩) 1 1, .bool false, .int .u64 0]) ∧ w.heap.size ≤ M ∧
      Blk w' M 57 [.int .u8 2, .int .i64 ((i : Int) + 1), .int .i64 x, .int .u64 0, .pointer (some ⟨T, 0, none⟩)] ∧
      Blk w' N 62 (nd ((i : Int) + 1) (.slice (some ⟨R, 0, none⟩) n n) 0 (.pointer none) c0 c1 (IntKind.u64.wrap (c2 + 1)) c3 c4) ∧
      Blk w' T 55 (tk (.slice (some ⟨L, 0, none⟩) l l) (.slice (some ⟨g, 0, none⟩) r.length cap) gr) ∧ Blk w' g 3 (r.map (.int .i64) ++ cur) ∧ r.length ≤ cap)

theorem HSt.fin1 {N T R L O i n l g cap : Nat} {qv : Value} {rn ln : List Int} {c0 c1 c2 c3 c4 gr : Int} {w wr w1 w3 : World} {x : Int} {r : List Int} {cur : List Value} (h : HSt N T R L O i n l qv rn ln c0 c1 c2 c3 c4 gr w wr (.slice (some ⟨g, 0, none⟩) (r.length + 1) cap) (x :: r))
    (hg1 : Blk w1 g 3 (r.map (Value.int .i64) ++ cur)) (hbut1 : But (fun k => k = g) wr w1)
    (hN3 : Blk w3 N 62 (nd ((i : Int) + 1) (.slice (some ⟨R, 0, none⟩) n n) 0 (.pointer none) c0 c1 (IntKind.u64.wrap (c2 + 1)) c3 c4)) (hbut3 : But (fun k => k = N) (w1.setCell ⟨T, 1, none⟩ (.slice (some ⟨g, 0, none⟩) r.length cap)) w3)
    (hgT : g ≠ T) (hgN : g ≠ N) (hNT : N ≠ T) (hNR : N ≠ R) (hNL : N ≠ L) (hTR : T ≠ R) (hTL : T ≠ L) (hNs : N < w.heap.size) :
    Blk w3 N 62 (nd ((i : Int) + 1) (.slice (some ⟨R, 0, none⟩) n n) 0 (.pointer none) c0 c1 (IntKind.u64.wrap (c2 + 1)) c3 c4) ∧
    Blk w3 T 55 (tk (.slice (some ⟨L, 0, none⟩) l l) (.slice (some ⟨g, 0, none⟩) r.length cap) gr) ∧ Blk w3 R 22 (rn.map (.int .u64)) ∧ Blk w3 L 22 (ln.map (.int .u64)) ∧ Blk w3 g 3 (r.map (Value.int .i64) ++ cur) ∧ But (Sof N T L qv) w w3 := by
  have hgR : g ≠ R := h.hQ.ne rfl h.hR (by decide)
  have hgL : g ≠ L := h.hQ.ne rfl h.hL (by decide)
  refine ⟨hN3, ((h.hT.but hbut1 (Ne.symm hgT)).set 1 _).but hbut3 (Ne.symm hNT), ((h.hR.but hbut1 (Ne.symm hgR)).other (Ne.symm hTR) _).but hbut3 (Ne.symm hNR), ((h.hL.but hbut1 (Ne.symm hgL)).other (Ne.symm hTL) _).but hbut3 (Ne.symm hNL), (hg1.other hgT _).but hbut3 hgN, ?_⟩
  have b1 : But (Sof N T L qv) w w1 := by
    refine ⟨hbut1.os.trans h.hb.os, hbut1.tape.trans h.hb.tape, hbut1.output.trans h.hb.output, Nat.le_trans h.hb.size hbut1.size, fun k hk hn => (hbut1.block k (Nat.lt_of_lt_of_le hk h.hb.size) (fun e => ?_)).trans (h.hb.block k hk hn)⟩
    subst e
    rcases h.hq k rfl with h1 | h1
    · exact hn h1
    · omega
  exact (b1.setCell (by right; left; rfl) _).trans (hbut3.mono (fun k _ e => by left; exact e))

theorem fin2 {N T R L i n l g cap : Nat} {qv : Value} {rn ln : List Int} {c0 c1 c2 c3 c4 gr : Int} {w w3 : World} {x : Int} {r : List Int} {cur cur' : List Value}
    (h : Blk w3 N 62 (nd ((i : Int) + 1) (.slice (some ⟨R, 0, none⟩) n n) 0 (.pointer none) c0 c1 (IntKind.u64.wrap (c2 + 1)) c3 c4) ∧
      Blk w3 T 55 (tk (.slice (some ⟨L, 0, none⟩) l l) (.slice (some ⟨g, 0, none⟩) r.length cap) gr) ∧ Blk w3 R 22 (rn.map (.int .u64)) ∧ Blk w3 L 22 (ln.map (.int .u64)) ∧ Blk w3 g 3 (r.map (Value.int .i64) ++ cur) ∧ But (Sof N T L qv) w w3)
    (hNs : N < w.heap.size) (hTs : T < w.heap.size) (hRs : R < w.heap.size) (hLs : L < w.heap.size) (hgO : g ≠ w.heap.size) (hs3 : w.heap.size < w3.heap.size) (hc : cap = (x :: r).length + cur'.length) :
    HEnd N T R L i n l qv rn ln c0 c1 c2 c3 c4 gr w (.returned (.agg #[.slice (some ⟨w3.heap.size, 0, none⟩) 1 1, .bool false, .int .u64 0])) ((((w3.setCell ⟨w.heap.size, 0, none⟩ (.slice (some ⟨w3.heap.size, 0, none⟩) 1 1)).setCell ⟨w.heap.size, 1, none⟩ (.bool false)).setCell ⟨w.heap.size, 2, none⟩ (.int .u64 0)).alloc (Obj.cells #[.int .u8 2, .int .i64 ((i : Int) + 1), .int .i64 x, .int .u64 0, .pointer (some ⟨T, 0, none⟩)] 57)) (x :: r) := by
  obtain ⟨a1, a2, a3, a4, a5, a6⟩ := h
  have far : ∀ {b : Nat} {t : TypeId} {cs : List Value}, b ≠ w.heap.size → Blk w3 b t cs → Blk ((((w3.setCell ⟨w.heap.size, 0, none⟩ (.slice (some ⟨w3.heap.size, 0, none⟩) 1 1)).setCell ⟨w.heap.size, 1, none⟩ (.bool false)).setCell ⟨w.heap.size, 2, none⟩ (.int .u64 0)).alloc (Obj.cells #[.int .u8 2, .int .i64 ((i : Int) + 1), .int .i64 x, .int .u64 0, .pointer (some ⟨T, 0, none⟩)] 57)) b t cs :=
    fun hb h => (((h.other (by exact hb) _).other (by exact hb) _).other (by exact hb) _).alloc _
  have step : ∀ {x : World} (o : Nat) (u : Value), But (Sof N T L qv) w x → But (Sof N T L qv) w (x.setCell ⟨w.heap.size, o, none⟩ u) := fun o u hx =>
    ⟨hx.os, hx.tape, hx.output, by simpa [World.setCell] using hx.size, fun k hk hn => (Below.heap_setCell _ _ _ _ (by exact Nat.ne_of_lt hk)).trans (hx.block k hk hn)⟩
  refine ⟨far (Nat.ne_of_lt hRs) a3, far (Nat.ne_of_lt hLs) a4, (step 2 _ (step 1 _ (step 0 _ a6))).alloc _, Or.inr ⟨x, r, w3.heap.size, g, cap, cur, rfl, rfl, Nat.le_of_lt hs3, ?_, far (Nat.ne_of_lt hNs) a1, far (Nat.ne_of_lt hTs) a2, far hgO a5, ?_⟩⟩
  · have := Blk.new (((w3.setCell ⟨w.heap.size, 0, none⟩ (.slice (some ⟨w3.heap.size, 0, none⟩) 1 1)).setCell ⟨w.heap.size, 1, none⟩ (.bool false)).setCell ⟨w.heap.size, 2, none⟩ (.int .u64 0)) 57 [.int .u8 2, .int .i64 ((i : Int) + 1), .int .i64 x, .int .u64 0, .pointer (some ⟨T, 0, none⟩)]
    have e : (((w3.setCell ⟨w.heap.size, 0, none⟩ (.slice (some ⟨w3.heap.size, 0, none⟩) 1 1)).setCell ⟨w.heap.size, 1, none⟩ (.bool false)).setCell ⟨w.heap.size, 2, none⟩ (.int .u64 0)).heap.size = w3.heap.size := by simp [World.setCell]
    rw [e] at this
    exact this
  · simp at hc; omega

theorem HSt.end0 {N T R L i n l : Nat} {qv : Value} {rn ln : List Int} {c0 c1 c2 c3 c4 gr : Int} {w wr : World} {v : Value} {Q : List Int} {a : Option Addr} {cap : Nat} (h : HSt N T R L w.heap.size i n l qv rn ln c0 c1 c2 c3 c4 gr w wr v Q) (hQ : Q = []) (hv : v = .slice a 0 cap)
    (hN : N < w.heap.size) (hT : T < w.heap.size) (hR : R < w.heap.size) (hL : L < w.heap.size) {e : Ending} (he : e = .returned (.agg #[.slice none 0 0, .bool false, .int .u64 0])) :
    HEnd N T R L i n l qv rn ln c0 c1 c2 c3 c4 gr w e (((wr.setCell ⟨w.heap.size, 0, none⟩ (.slice none 0 0)).setCell ⟨w.heap.size, 1, none⟩ (.bool false)).setCell ⟨w.heap.size, 2, none⟩ (.int .u64 0)) Q := by
  subst hv
  have far : ∀ {b : Nat} {t : TypeId} {cs : List Value}, b < w.heap.size → Blk wr b t cs → Blk (((wr.setCell ⟨w.heap.size, 0, none⟩ (.slice none 0 0)).setCell ⟨w.heap.size, 1, none⟩ (.bool false)).setCell ⟨w.heap.size, 2, none⟩ (.int .u64 0)) b t cs :=
    fun hb h => ((h.other (by exact Nat.ne_of_lt hb) _).other (by exact Nat.ne_of_lt hb) _).other (by exact Nat.ne_of_lt hb) _
  refine ⟨far hR h.hR, far hL h.hL, ?_, Or.inl ⟨hQ, he, far hN h.hN, a, cap, far hT h.hT⟩⟩
  have step : ∀ {x : World} (o : Nat) (u : Value), But (Sof N T L qv) w x → But (Sof N T L qv) w (x.setCell ⟨w.heap.size, o, none⟩ u) := fun o u hx =>
    ⟨hx.os, hx.tape, hx.output, by simpa [World.setCell] using hx.size, fun k hk hn => (Below.heap_setCell _ _ _ _ (by exact Nat.ne_of_lt hk)).trans (hx.block k hk hn)⟩
  exact step 2 _ (step 1 _ (step 0 _ h.hb))

set_option maxHeartbeats 1000000 in
theorem handOn_any (N T R L i n l : Nat) (qv : Value) (rn ln q ln' : List Int) (st c0 c1 c2 c3 c4 gr : Int) (w : World) (HL : Hid (ln' = ln.set i (rn.getD i 0)))
    (hN : Blk w N 62 (nd ((i : Int) + 1) (.slice (some ⟨R, 0, none⟩) n n) st (.pointer (some ⟨T, 0, none⟩)) c0 c1 c2 c3 c4))
    (hT : Blk w T 55 (tk (.slice (some ⟨L, 0, none⟩) l l) qv gr))
    (hR : Blk w R 22 (rn.map (.int .u64))) (hL : Blk w L 22 (ln.map (.int .u64))) (hQ : QIs w qv q)
    (hRL : R ≠ L) (hn : rn.length = n) (hl : ln.length = l) (hin : i < n) (hnl : n ≤ l) (hl4 : l ≤ 4096) (hq : q.length ≤ 4096) :
    Calls Try.prog 25 #[.pointer (some ⟨N, 0, none⟩)] w fun e w' =>
      HEnd N T R L i n l qv rn ln' c0 c1 c2 c3 c4 gr w e w' (fullQ rn ln' i q n) := by
  obtain ⟨i0, hi, hz0, hz1, hz2⟩ := info_parts Try.info3'
  have hNT : N ≠ T := hN.ne hT (by decide)
  have hNR : N ≠ R := hN.ne hR (by decide)
  have hNL : N ≠ L := hN.ne hL (by decide)
  have hTR : T ≠ R := hT.ne hR (by decide)
  have hTL : T ≠ L := hT.ne hL (by decide)
  have cN0 : w.cell? ⟨N, 0, none⟩ = some (.int .i64 ((i : Int) + 1)) := hN.cell 0
  have cN1 : w.cell? ⟨N, 1, none⟩ = some (.slice (some ⟨R, 0, none⟩) n n) := hN.cell 1
  have cN2 : w.cell? ⟨N, 2, none⟩ = some (.int .u8 st) := hN.cell 2
  have cN3 : w.cell? ⟨N, 3, none⟩ = some (.pointer (some ⟨T, 0, none⟩)) := hN.cell 3
  have fN2 := hN.free 2
  have cT0 : w.cell? ⟨T, 0, none⟩ = some (.slice (some ⟨L, 0, none⟩) l l) := hT.cell 0
  obtain ⟨r, cR, HR⟩ : ∃ r, w.cell? ⟨R, i, none⟩ = some (.int .u64 r) ∧ Hid (r = rn.getD i 0) := ⟨rn.getD i 0, by rw [hR.cell]; simp [List.getElem?_eq_getElem (show i < rn.length by omega)], rfl⟩
  obtain ⟨x, cL⟩ : ∃ x, w.cell? ⟨L, i, none⟩ = some (.int .u64 x) := ⟨ln.getD i 0, by rw [hL.cell]; simp [List.getElem?_eq_getElem (show i < ln.length by omega)]⟩
  have fL := hL.free i
  have h1 : (i : Int) < (n : Int) := by omega
  have h2 : (i : Int) < (l : Int) := by omega
  have hNs : N < w.heap.size := hN.lt
  have hTs : T < w.heap.size := hT.lt
  have hRs : R < w.heap.size := hR.lt
  have hLs : L < w.heap.size := hL.lt
  have H0 : Hid (HSt N T R L w.heap.size i n l qv rn ln' c0 c1 c2 c3 c4 gr w (((w.setCell ⟨N, 2, none⟩ (.int .u8 0)).setCell ⟨L, i, none⟩ (.int .u64 r)).alloc (Obj.cells #[.slice none 0 0, .bool false, .int .u64 0] 45)).drew qv q) := by
    refine ⟨?_, ?_, ?_, ?_, ?_, ?_, ?_, ?_⟩
    · exact ((hN.set 2 _).other (by exact hNL) _).alloc _
    · exact ((hT.other (by exact Ne.symm hNT) _).other (by exact hTL) _).alloc _
    · exact ((hR.other (by exact Ne.symm hNR) _).other (by exact hRL) _).alloc _
    · have := ((hL.other (a := ⟨N, 2, none⟩) (by exact Ne.symm hNL) (.int .u8 0)).set i (.int .u64 r)).alloc (Obj.cells #[.slice none 0 0, .bool false, .int .u64 0] 45)
      rw [HL.out, ← HR.out, List.map_set]; exact this
    · have e : ((w.setCell ⟨N, 2, none⟩ (.int .u8 0)).setCell ⟨L, i, none⟩ (.int .u64 r)).heap.size = w.heap.size := by simp [World.setCell]
      have := Blk.new ((w.setCell ⟨N, 2, none⟩ (.int .u8 0)).setCell ⟨L, i, none⟩ (.int .u64 r)) 45 [.slice none 0 0, .bool false, .int .u64 0]
      rw [e] at this; exact this
    · refine World.ownsRow.alloc ?_ _
      have a1 := ownsRow_setCell_other (a := ⟨N, 2, none⟩) hQ (fun e => hQ.ne e hN (by decide) rfl) (.int .u8 0)
      exact ownsRow_setCell_other (a := ⟨L, i, none⟩) a1 (fun e => hQ.ne e hL (by decide) rfl) (.int .u64 r)
    · intro g hg; left; right; right; right; exact hg
    · exact ((((But.refl _ w).setCell (by left; rfl) _).setCell (by right; right; left; rfl) _).alloc _).drew
  go_enter Try.func25, Try.ntmps25
  go_wp2
  go_region
  go_wp2_with fail
  have hll : ln'.length = l := by rw [HL.out]; simpa using hl
  clear cN0 cN1 cN2 cN3 fN2 cT0 cR cL fL hN hT hR hL hQ
  clear HR hl HL
  go_loopw [4] (fun t wr => ∃ k : Nat, k ≤ n ∧ t = .int .i64 ((k : Int) + 1) ∧ ∃ v, HSt N T R L w.heap.size i n l qv rn ln' c0 c1 c2 c3 c4 gr w wr v (fullQ rn ln' i q k)) (fun t _ => n + 1 - (intOf t).toNat)
  case atStart => exact ⟨0, Nat.zero_le _, rfl, qv, H0.out⟩
  case round =>
    clear H0
    obtain ⟨k, hk, rfl, v, hs⟩ := hrel
    obtain ⟨Q, HQ⟩ : ∃ Q, Hid (Q = fullQ rn ln' i q k) := ⟨_, rfl⟩
    have hQl : Q.length ≤ 8192 := by rw [HQ.out]; have := (fullQ_len rn ln' i q k).1; omega
    rw [← HQ.out] at hs
    have cN0 : wr.cell? ⟨N, 0, none⟩ = some (.int .i64 ((i : Int) + 1)) := hs.hN.cell 0
    have cN1 : wr.cell? ⟨N, 1, none⟩ = some (.slice (some ⟨R, 0, none⟩) n n) := hs.hN.cell 1
    have cN3 : wr.cell? ⟨N, 3, none⟩ = some (.pointer (some ⟨T, 0, none⟩)) := hs.hN.cell 3
    have cT0 : wr.cell? ⟨T, 0, none⟩ = some (.slice (some ⟨L, 0, none⟩) l l) := hs.hT.cell 0
    have cT1 : wr.cell? ⟨T, 1, none⟩ = some v := hs.hT.cell 1
    by_cases hlt : k < n
    · by_cases hki : k = i
      · subst hki
        go_wp2
        go_roundw
        case rel => exact ⟨k + 1, by omega, by go_num, v, by rw [fullQ_no1, ← HQ.out]; exact hs⟩
        case measure => simp [intOf]; omega
      · obtain ⟨r, cR, HR⟩ : ∃ r, wr.cell? ⟨R, k, none⟩ = some (.int .u64 r) ∧ Hid (r = rn.getD k 0) := ⟨rn.getD k 0, by rw [hs.hR.cell]; simp [List.getElem?_eq_getElem (show k < rn.length by omega)], rfl⟩
        obtain ⟨x, cL, HX⟩ : ∃ x, wr.cell? ⟨L, k, none⟩ = some (.int .u64 x) ∧ Hid (x = ln'.getD k 0) := ⟨ln'.getD k 0, by rw [hs.hL.cell]; simp [List.getElem?_eq_getElem (show k < ln'.length by omega)], rfl⟩
        by_cases hd : duB r x = true
        · by_cases hc : inB Q ((k : Int) + 1) = true
          · go_wp2_with (first | (go_at_call 26; refine (outst N T R L n l k r x _ cN1 cN3 cT0 hlt (by omega) (by omega) hl4 cR cL).mono ?_; rintro e w' ⟨rfl, nq, rfl⟩) | (go_at_call 27; refine (contains_q v Q _ _ (hs.drewN nq).hQ).mono ?_; rintro e w' ⟨rfl, rfl⟩))
            go_roundw
            case rel => exact ⟨k + 1, by omega, by go_num, v, by rw [fullQ_no3 _ _ _ _ _ (by rw [← HQ.out]; exact hc), ← HQ.out]; exact hs.drewN _⟩
            case measure => simp [intOf]; omega
          · have hc' : inB Q ((k : Int) + 1) = false := by simpa using hc
            go_wp2_with (first | (go_at_call 26; refine (outst N T R L n l k r x _ cN1 cN3 cT0 hlt (by omega) (by omega) hl4 cR cL).mono ?_; rintro e w' ⟨rfl, nq, rfl⟩) | (go_at_call 27; refine (contains_q v Q _ _ (hs.drewN nq).hQ).mono ?_; rintro e w' ⟨rfl, rfl⟩) | (at_builtin; refine wpList_append_lies _ rfl _ _ 34 rfl 0 3 i0 (.int .i64 0) 1 8 Try.underlying34 hi hz0 hz1 hz2 rfl (by decide) v Q.length (Q.map (Value.int .i64)) (by rfl) (by exact hs.hQ.alloc _) ⟨wr.heap.size, 0, none⟩ 1 1 [.int .i64 ((k : Int) + 1)] (by rfl) rfl (by exact cell_one_new _ _ _) (by simp [Value.oneCell']) (by decide) (by unfold maxLen; omega) (by omega) (Nat.zero_le _) (wr.heap.size + 1) (by simp) ?_; intro g cap w1 hown1 hgrow hat hltg; have hgrow' : (wr.alloc (.cells #[.int .i64 ((k : Int) + 1)] 3)).grownBy w1 v.ownBlock := ⟨hgrow.os, hgrow.tape, hgrow.output, hgrow.size, hgrow.block⟩; have cT1' := (hs.tok1 hgrow').1; have fT1' := (hs.tok1 hgrow').2))
            go_roundw
            case rel => exact ⟨k + 1, by omega, by go_num, _, by rw [fullQ_yes _ _ _ _ _ hki (by rw [← HR.out, ← HX.out]; exact hd) (by rw [← HQ.out]; exact hc'), ← HQ.out]; exact hs.push hown1 hgrow' hat⟩
            case measure => simp [intOf]; omega
        · have hd' : duB r x = false := by simpa using hd
          go_wp2_with (first | (go_at_call 26; refine (outst N T R L n l k r x _ cN1 cN3 cT0 hlt (by omega) (by omega) hl4 cR cL).mono ?_; rintro e w' ⟨rfl, nq, rfl⟩))
          go_roundw
          case rel => exact ⟨k + 1, by omega, by go_num, v, by rw [fullQ_no2 _ _ _ _ _ (by rw [← HR.out, ← HX.out]; exact hd'), ← HQ.out]; exact hs.drewN _⟩
          case measure => simp [intOf]; omega
    · obtain rfl : k = n := by omega
      obtain ⟨o0, o1, o2, fo0, fo1, fo2⟩ : wr.cell? ⟨w.heap.size, 0, none⟩ = some (.slice none 0 0) ∧ wr.cell? ⟨w.heap.size, 1, none⟩ = some (.bool false) ∧ wr.cell? ⟨w.heap.size, 2, none⟩ = some (.int .u64 0) ∧ wr.frozen? ⟨w.heap.size, 0, none⟩ = false ∧ wr.frozen? ⟨w.heap.size, 1, none⟩ = false ∧ wr.frozen? ⟨w.heap.size, 2, none⟩ = false := ⟨hs.hO.cell 0, hs.hO.cell 1, hs.hO.cell 2, hs.hO.free 0, hs.hO.free 1, hs.hO.free 2⟩
      have q0 : (wr.setCell ⟨w.heap.size, 0, none⟩ (.slice none 0 0)).cell? ⟨w.heap.size, 0, none⟩ = some (.slice none 0 0) := (hs.hO.set 0 _).cell 0
      have q1 : ((wr.setCell ⟨w.heap.size, 0, none⟩ (.slice none 0 0)).setCell ⟨w.heap.size, 1, none⟩ (.bool false)).cell? ⟨w.heap.size, 1, none⟩ = some (.bool false) := ((hs.hO.set 0 _).set 1 _).cell 1
      have q2 : (((wr.setCell ⟨w.heap.size, 0, none⟩ (.slice none 0 0)).setCell ⟨w.heap.size, 1, none⟩ (.bool false)).setCell ⟨w.heap.size, 2, none⟩ (.int .u64 0)).cell? ⟨w.heap.size, 2, none⟩ = some (.int .u64 0) := (((hs.hO.set 0 _).set 1 _).set 2 _).cell 2
      have FIN : Hid (∀ (e : Ending) (w' : World), HEnd N T R L i k l qv rn ln' c0 c1 c2 c3 c4 gr w e w' Q → HEnd N T R L i k l qv rn ln' c0 c1 c2 c3 c4 gr w e w' (fullQ rn ln' i q k)) := by rw [← HQ.out]; exact fun _ _ h => h
      clear HQ hQl hk cN0 cN3 cT0
      rcases hs.hQ.form with ⟨hv, hq0⟩ | ⟨g, cap, cur, hv, hbq, hcap, hcm⟩
      · subst hv
        have R0 : Hid (∀ e : Ending, e = .returned (.agg #[.slice none 0 0, .bool false, .int .u64 0]) → HEnd N T R L i k l qv rn ln' c0 c1 c2 c3 c4 gr w e (((wr.setCell ⟨w.heap.size, 0, none⟩ (.slice none 0 0)).setCell ⟨w.heap.size, 1, none⟩ (.bool false)).setCell ⟨w.heap.size, 2, none⟩ (.int .u64 0)) Q) := fun e he => hs.end0 hq0 rfl hNs hTs hRs hLs he
        clear hs
        go_wp2
        exact bodyPost_ret (v := .agg #[.slice none 0 0, .bool false, .int .u64 0]) (by simp [results, Try.results25, go_sem, q0, q1, q2]) rfl (FIN.out _ _ (R0.out _ rfl))
      · cases Q with
        | nil =>
          rw [List.length_nil] at hv
          subst hv
          have R0 : Hid (∀ e : Ending, e = .returned (.agg #[.slice none 0 0, .bool false, .int .u64 0]) → HEnd N T R L i k l qv rn ln' c0 c1 c2 c3 c4 gr w e (((wr.setCell ⟨w.heap.size, 0, none⟩ (.slice none 0 0)).setCell ⟨w.heap.size, 1, none⟩ (.bool false)).setCell ⟨w.heap.size, 2, none⟩ (.int .u64 0)) []) := fun e he => hs.end0 rfl rfl hNs hTs hRs hLs he
          clear hs hbq
          go_wp2
          exact bodyPost_ret (v := .agg #[.slice none 0 0, .bool false, .int .u64 0]) (by simp [results, Try.results25, go_sem, q0, q1, q2]) rfl (FIN.out _ _ (R0.out _ rfl))
        | cons x r =>
          rw [List.length_cons] at hv
          subst hv
          have cg : wr.cell? ⟨g, 0, none⟩ = some (.int .i64 x) := hbq.cell 0
          have hgT := hs.hQ.ne rfl hs.hT (by decide)
          have hgN := hs.hQ.ne rfl hs.hN (by decide)
          have hgO := hs.hQ.ne rfl hs.hO (by decide)
          have HS : Hid (HSt N T R L w.heap.size i k l qv rn ln' c0 c1 c2 c3 c4 gr w wr (.slice (some ⟨g, 0, none⟩) (r.length + 1) cap) (x :: r)) := hs
          have HC : Hid (cap = (x :: r).length + cur.length) := hcap
          clear hs q0 q1 q2 o0 o1 o2 fo0 fo1 fo2 hcap
          go_wp2_with fail
          refine (delete_q g cap x r cur _ hbq HC.out hcm).mono ?_
          rintro e w1 ⟨rfl, hg1, hbut1⟩
          have hT1 := HS.out.hT.but hbut1 (Ne.symm hgT)
          have hN1 := HS.out.hN.but hbut1 (Ne.symm hgN)
          have hO1 := HS.out.hO.but hbut1 (Ne.symm hgO)
          have cT1a : w1.cell? ⟨T, 1, none⟩ = some (.slice (some ⟨g, 0, none⟩) (r.length + 1) cap) := hT1.cell 1
          have fT1a := hT1.free 1
          clear hbq cg cT1 cN1
          go_wp2_with fail
          refine (pass_any N T _ 0 x c0 c1 c2 c3 c4 _ _ (hN1.other (a := ⟨T, 1, none⟩) hNT _)).mono ?_
          rintro e w3 ⟨rfl, hN3, hbut3⟩
          have F3 : Hid (_ ∧ _ ∧ _ ∧ _ ∧ _ ∧ _) := HS.out.fin1 hg1 hbut1 hN3 hbut3 hgT hgN hNT hNR hNL hTR hTL hNs
          have hO3 : Blk w3 w.heap.size 45 [.slice none 0 0, .bool false, .int .u64 0] := (hO1.other (a := ⟨T, 1, none⟩) (by exact Ne.symm (Nat.ne_of_lt hTs)) _).but hbut3 (by exact Ne.symm (Nat.ne_of_lt hNs))
          have hs3 : w.heap.size < w3.heap.size := hO3.lt
          obtain ⟨o0, o1, o2, fo0, fo1, fo2⟩ : w3.cell? ⟨w.heap.size, 0, none⟩ = some (.slice none 0 0) ∧ w3.cell? ⟨w.heap.size, 1, none⟩ = some (.bool false) ∧ w3.cell? ⟨w.heap.size, 2, none⟩ = some (.int .u64 0) ∧ w3.frozen? ⟨w.heap.size, 0, none⟩ = false ∧ w3.frozen? ⟨w.heap.size, 1, none⟩ = false ∧ w3.frozen? ⟨w.heap.size, 2, none⟩ = false := ⟨hO3.cell 0, hO3.cell 1, hO3.cell 2, hO3.free 0, hO3.free 1, hO3.free 2⟩
          clear hT1 hN1 hO1 hbut1 hg1 cT1a fT1a hN3 hbut3
          go_wp2
          have q0 : ((((w3.setCell ⟨w.heap.size, 0, none⟩ (.slice (some ⟨w3.heap.size, 0, none⟩) 1 1)).setCell ⟨w.heap.size, 1, none⟩ (.bool false)).setCell ⟨w.heap.size, 2, none⟩ (.int .u64 0)).alloc (Obj.cells #[.int .u8 2, .int .i64 ((i : Int) + 1), .int .i64 x, .int .u64 0, .pointer (some ⟨T, 0, none⟩)] 57)).cell? ⟨w.heap.size, 0, none⟩ = some (.slice (some ⟨w3.heap.size, 0, none⟩) 1 1) := ((((hO3.set 0 _).set 1 _).set 2 _).alloc _).cell 0
          have q1 : ((((w3.setCell ⟨w.heap.size, 0, none⟩ (.slice (some ⟨w3.heap.size, 0, none⟩) 1 1)).setCell ⟨w.heap.size, 1, none⟩ (.bool false)).setCell ⟨w.heap.size, 2, none⟩ (.int .u64 0)).alloc (Obj.cells #[.int .u8 2, .int .i64 ((i : Int) + 1), .int .i64 x, .int .u64 0, .pointer (some ⟨T, 0, none⟩)] 57)).cell? ⟨w.heap.size, 1, none⟩ = some (.bool false) := ((((hO3.set 0 _).set 1 _).set 2 _).alloc _).cell 1
          have q2 : ((((w3.setCell ⟨w.heap.size, 0, none⟩ (.slice (some ⟨w3.heap.size, 0, none⟩) 1 1)).setCell ⟨w.heap.size, 1, none⟩ (.bool false)).setCell ⟨w.heap.size, 2, none⟩ (.int .u64 0)).alloc (Obj.cells #[.int .u8 2, .int .i64 ((i : Int) + 1), .int .i64 x, .int .u64 0, .pointer (some ⟨T, 0, none⟩)] 57)).cell? ⟨w.heap.size, 2, none⟩ = some (.int .u64 0) := ((((hO3.set 0 _).set 1 _).set 2 _).alloc _).cell 2
          have R0 : HEnd N T R L i k l qv rn ln' c0 c1 c2 c3 c4 gr w (.returned (.agg #[.slice (some ⟨w3.heap.size, 0, none⟩) 1 1, .bool false, .int .u64 0])) ((((w3.setCell ⟨w.heap.size, 0, none⟩ (.slice (some ⟨w3.heap.size, 0, none⟩) 1 1)).setCell ⟨w.heap.size, 1, none⟩ (.bool false)).setCell ⟨w.heap.size, 2, none⟩ (.int .u64 0)).alloc (Obj.cells #[.int .u8 2, .int .i64 ((i : Int) + 1), .int .i64 x, .int .u64 0, .pointer (some ⟨T, 0, none⟩)] 57)) (x :: r) := fin2 F3.out hNs hTs hRs hLs hgO hs3 HC.out
          exact bodyPost_ret (v := .agg #[.slice (some ⟨w3.heap.size, 0, none⟩) 1 1, .bool false, .int .u64 0]) (by simp [results, Try.results25, go_sem, q0, q1, q2]) rfl (FIN.out _ _ R0)
end Go.Proofs.Qxb6602866a

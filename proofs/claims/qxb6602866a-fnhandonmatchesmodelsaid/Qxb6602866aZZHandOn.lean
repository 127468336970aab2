/-
  The contract of ZZHandOn (function 16).
-/
import Derived.Test.Qxb6602866aHandOn
namespace Go.Proofs.Qxb6602866a
open Go.RowKit
set_option linter.unusedSimpArgs false
set_option linter.unusedVariables false

theorem HEnd.outer {N T R L i n l : Nat} {qv : Value} {rn ln : List Int} {c0 c1 c2 c3 c4 gr : Int} {w w1 : World} {e : Ending} {Q : List Int} {cs : List Value} (A : Value)
    (h : HEnd N T R L i n l qv rn ln c0 c1 c2 c3 c4 gr (w.alloc (Obj.cells #[.slice none 0 0, .bool false, .int .u64 0] 45)) e w1 Q)
    (hNs : N < w.heap.size) (hTs : T < w.heap.size) (hRs : R < w.heap.size) (hLs : L < w.heap.size) (hO : Blk w1 w.heap.size 45 cs) :
    HEnd N T R L i n l qv rn ln c0 c1 c2 c3 c4 gr w e (((w1.setCell ⟨w.heap.size, 0, none⟩ A).setCell ⟨w.heap.size, 1, none⟩ (.bool false)).setCell ⟨w.heap.size, 2, none⟩ (.int .u64 0)) Q := by
  obtain ⟨hR, hL, hb, h⟩ := h
  have far : ∀ {b : Nat} {t : TypeId} {cs : List Value}, b ≠ w.heap.size → Blk w1 b t cs → Blk (((w1.setCell ⟨w.heap.size, 0, none⟩ A).setCell ⟨w.heap.size, 1, none⟩ (.bool false)).setCell ⟨w.heap.size, 2, none⟩ (.int .u64 0)) b t cs :=
    fun hb h => ((h.other (by exact hb) _).other (by exact hb) _).other (by exact hb) _
  have step : ∀ {x : World} (o : Nat) (u : Value), But (Sof N T L qv) w x → But (Sof N T L qv) w (x.setCell ⟨w.heap.size, o, none⟩ u) := fun o u hx =>
    ⟨hx.os, hx.tape, hx.output, by simpa [World.setCell] using hx.size, fun k hk hn => (Below.heap_setCell _ _ _ _ (by exact Nat.ne_of_lt hk)).trans (hx.block k hk hn)⟩
  have hb0 : But (Sof N T L qv) w w1 := ((But.refl _ w).alloc _).trans hb
  have hsz : (w.alloc (Obj.cells #[.slice none 0 0, .bool false, .int .u64 0] 45)).heap.size = w.heap.size + 1 := by simp
  refine ⟨far (Nat.ne_of_lt hRs) hR, far (Nat.ne_of_lt hLs) hL, step 2 _ (step 1 _ (step 0 _ hb0)), ?_⟩
  rcases h with ⟨h1, h2, h3, a, cap, h4⟩ | ⟨x, r, M, g, cap, cur, h1, h2, hM, h3, h4, h5, h6, h7⟩
  · exact Or.inl ⟨h1, h2, far (Nat.ne_of_lt hNs) h3, a, cap, far (Nat.ne_of_lt hTs) h4⟩
  · rw [hsz] at hM
    exact Or.inr ⟨x, r, M, g, cap, cur, h1, h2, by omega, far (by omega) h3, far (Nat.ne_of_lt hNs) h4, far (Nat.ne_of_lt hTs) h5, far (h6.ne hO (by decide)) h6, h7⟩

set_option maxHeartbeats 1000000 in
theorem zzHandOn (N T R L i n l : Nat) (qv : Value) (rn ln q ln' : List Int) (st c0 c1 c2 c3 c4 gr : Int) (w : World) (HL : Hid (ln' = ln.set i (rn.getD i 0)))
    (hN : Blk w N 62 (nd ((i : Int) + 1) (.slice (some ⟨R, 0, none⟩) n n) st (.pointer (some ⟨T, 0, none⟩)) c0 c1 c2 c3 c4))
    (hT : Blk w T 55 (tk (.slice (some ⟨L, 0, none⟩) l l) qv gr))
    (hR : Blk w R 22 (rn.map (.int .u64))) (hL : Blk w L 22 (ln.map (.int .u64))) (hQ : QIs w qv q)
    (hRL : R ≠ L) (hn : rn.length = n) (hl : ln.length = l) (hin : i < n) (hnl : n ≤ l) (hl4 : l ≤ 4096) (hq : q.length ≤ 4096) :
    Calls Try.prog 16 #[.pointer (some ⟨N, 0, none⟩)] w fun e w' =>
      HEnd N T R L i n l qv rn ln' c0 c1 c2 c3 c4 gr w e w' (fullQ rn ln' i q n) := by
  have hNs : N < w.heap.size := hN.lt
  have hTs : T < w.heap.size := hT.lt
  have hRs : R < w.heap.size := hR.lt
  have hLs : L < w.heap.size := hL.lt
  have C := handOn_any N T R L i n l qv rn ln q ln' st c0 c1 c2 c3 c4 gr (w.alloc (Obj.cells #[.slice none 0 0, .bool false, .int .u64 0] 45)) HL (hN.alloc _) (hT.alloc _) (hR.alloc _) (hL.alloc _) (World.ownsRow.alloc hQ _) hRL hn hl hin hnl hl4 hq
  have HC : Hid (Calls Try.prog 25 #[.pointer (some ⟨N, 0, none⟩)] (w.alloc (Obj.cells #[.slice none 0 0, .bool false, .int .u64 0] 45)) _) := C
  have hO : Blk (w.alloc (Obj.cells #[.slice none 0 0, .bool false, .int .u64 0] 45)) w.heap.size 45 [.slice none 0 0, .bool false, .int .u64 0] := Blk.new w 45 [.slice none 0 0, .bool false, .int .u64 0]
  have hQA : QIs (w.alloc (Obj.cells #[.slice none 0 0, .bool false, .int .u64 0] 45)) qv q := World.ownsRow.alloc hQ _
  have hQO : qv.ownBlock ≠ some w.heap.size := fun e => hQA.ne e hO (by decide) rfl
  clear hQA
  clear C hN hT hR hL hQ hn hl hnl hRL
  go_enter Try.func16, Try.ntmps16
  go_wp2_with fail
  refine HC.out.mono ?_
  rintro e w1 hE
  have hO1 : Blk w1 w.heap.size 45 [.slice none 0 0, .bool false, .int .u64 0] := hO.but hE.2.2.1 (by rintro (h | h | h | h); omega; omega; omega; exact hQO h)
  obtain ⟨o0, o1, o2, fo0, fo1, fo2⟩ : w1.cell? ⟨w.heap.size, 0, none⟩ = some (.slice none 0 0) ∧ w1.cell? ⟨w.heap.size, 1, none⟩ = some (.bool false) ∧ w1.cell? ⟨w.heap.size, 2, none⟩ = some (.int .u64 0) ∧ w1.frozen? ⟨w.heap.size, 0, none⟩ = false ∧ w1.frozen? ⟨w.heap.size, 1, none⟩ = false ∧ w1.frozen? ⟨w.heap.size, 2, none⟩ = false := ⟨hO1.cell 0, hO1.cell 1, hO1.cell 2, hO1.free 0, hO1.free 1, hO1.free 2⟩
  have q0 : ∀ A : Value, (w1.setCell ⟨w.heap.size, 0, none⟩ A).cell? ⟨w.heap.size, 0, none⟩ = some A := fun A => (hO1.set 0 _).cell 0
  have q1 : ∀ A : Value, ((w1.setCell ⟨w.heap.size, 0, none⟩ A).setCell ⟨w.heap.size, 1, none⟩ (.bool false)).cell? ⟨w.heap.size, 1, none⟩ = some (.bool false) := fun A => ((hO1.set 0 _).set 1 _).cell 1
  have q2 : ∀ A : Value, (((w1.setCell ⟨w.heap.size, 0, none⟩ A).setCell ⟨w.heap.size, 1, none⟩ (.bool false)).setCell ⟨w.heap.size, 2, none⟩ (.int .u64 0)).cell? ⟨w.heap.size, 2, none⟩ = some (.int .u64 0) := fun A => (((hO1.set 0 _).set 1 _).set 2 _).cell 2
  have R0 : Hid (∀ A, HEnd N T R L i n l qv rn ln' c0 c1 c2 c3 c4 gr w e (((w1.setCell ⟨w.heap.size, 0, none⟩ A).setCell ⟨w.heap.size, 1, none⟩ (.bool false)).setCell ⟨w.heap.size, 2, none⟩ (.int .u64 0)) (fullQ rn ln' i q n)) := fun A => hE.outer A hNs hTs hRs hLs hO1
  have hval : ∃ A, e = .returned (.agg #[A, .bool false, .int .u64 0]) ∧ (A = .slice none 0 0 ∨ ∃ M, A = .slice (some ⟨M, 0, none⟩) 1 1) := by
    rcases hE.2.2.2 with ⟨_, h2, _⟩ | ⟨x, r, M, g, cap, cur, _, h2, _⟩
    · exact ⟨_, h2, Or.inl rfl⟩
    · exact ⟨_, h2, Or.inr ⟨M, rfl⟩⟩
  clear hE hO hQO hO1 HC
  obtain ⟨A, rfl, rfl | ⟨M, rfl⟩⟩ := hval
  · go_wp2
    exact bodyPost_ret (v := .agg #[.slice none 0 0, .bool false, .int .u64 0]) (by simp [results, Try.results16, go_sem, q0, q1, q2]) rfl (R0.out _)
  · go_wp2
    exact bodyPost_ret (v := .agg #[.slice (some ⟨M, 0, none⟩) 1 1, .bool false, .int .u64 0]) (by simp [results, Try.results16, go_sem, q0, q1, q2]) rfl (R0.out _)
end Go.Proofs.Qxb6602866a

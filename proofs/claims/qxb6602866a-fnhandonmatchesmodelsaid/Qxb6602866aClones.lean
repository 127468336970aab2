/-
  The contracts of coreB1CloneU8 (function 10), coreB1CloneU64 (12), coreB1CloneInts (13): a new block with the same elements; nil for nil.
-/
import Derived.Test.Qxb6602866aProg
import Derived.Test.Qxb6602866aKit
import Derived.Lib.SliceRun
namespace Go.Proofs.Qxb6602866a
open Go.RowKit
set_option linter.unusedSimpArgs false
set_option linter.unusedVariables false

theorem Try.info5 : (Try.prog.info? 5).map (fun i => (i.zero, i.size, i.bytes)) = some (some (.int .u8 0), 1, 1) := by kernel_rfl

set_option maxHeartbeats 400000 in
theorem cloneU8_nil (n c : Nat) (w : World) : Calls Try.prog 10 #[.slice none n c] w fun e w' => e = .returned (.slice none 0 0) ∧ w' = w := by
  have q : ∀ (w : World) (a : Option Addr) (n c n' c' : Nat), (binOp .eql 30 (.slice a n c) (.slice none n' c')).run Try.prog w = .ok (.bool a.isNone) w := fun w a n c n' c' => Lib.run_eql_slice_nil w _ _ a n c n' c' Try.underlying30
  go_enter Try.func10, Try.ntmps10
  go_wp2
  go_ret
  exact ⟨rfl, rfl⟩

set_option maxHeartbeats 400000 in
theorem cloneU8_some (b off len cap : Nat) (zs : List Int) (w : World) (hlen : len ≤ 1048576) (hz : len ≤ zs.length) (hpos : 0 < len)
    (hc : ∀ j, j < zs.length → w.cell? ⟨b, off + j, none⟩ = some (.int .u8 (zs.getD j 0))) :
    Calls Try.prog 10 #[.slice (some ⟨b, off, none⟩) len cap] w fun e w' => ∃ v, e = .returned v ∧ Own .u8 5 w.heap.size w' v (zs.take len) ∧ Below w.heap.size w w' := by
  have q : ∀ (w : World) (a : Option Addr) (n c n' c' : Nat), (binOp .eql 30 (.slice a n c) (.slice none n' c')).run Try.prog w = .ok (.bool a.isNone) w := fun w a n c n' c' => Lib.run_eql_slice_nil w _ _ a n c n' c' Try.underlying30
  obtain ⟨i0, hi, hz0, hz1, hz2⟩ := info_parts Try.info5
  have hb : b < w.heap.size := World.block_lt_of_cell? _ _ (hc 0 (by omega))
  go_enter Try.func10, Try.ntmps10
  go_wp2_with (at_make; refine wpList_make_full _ rfl _ _ 30 rfl w.heap.size 5 i0 (.int .u8 0) 1 Try.underlying30 hi hz0 hz1 .i64 .i64 len len len rfl rfl rfl rfl (by rw [hz2]; omega) (by unfold maxLen; omega) (Nat.le_refl _) ?_; intro w1 hown1 hgrow1)
  have R0 : Hid (∃ cs : List Value, cs.length = len ∧ Blk w1 w.heap.size 5 cs) := by
    obtain ⟨hl, h | ⟨g, cp, cur, hv, _, hh, _, _, hsz, _⟩⟩ := hown1
    · simp at h
    · simp at hv
      obtain ⟨rfl, rfl⟩ := hv
      exact ⟨cur.toList, by simpa using hsz, by simpa [Blk] using hh⟩
  have hbel : Below w.heap.size w w1 := (Below.refl _ _).grown hgrow1 (Nat.le_refl _) (by simp)
  clear hown1 hgrow1
  go_loopw [4] (fun i wr => ∃ k : Nat, k ≤ len ∧ i = .int .i64 k ∧ Below w.heap.size w wr ∧ ∃ cs : List Value, cs.length = len ∧ Blk wr w.heap.size 5 cs ∧ ∀ j, j < k → cs[j]? = some (.int .u8 (zs.getD j 0))) (fun i _ => len - (intOf i).toNat)
  case atStart =>
    obtain ⟨cs, h1, h2⟩ := R0.out
    exact ⟨0, Nat.zero_le _, rfl, hbel, cs, h1, h2, fun j hj => absurd hj (Nat.not_lt_zero _)⟩
  case round =>
    obtain ⟨k, hk, rfl, hbr, cs, hcl, hblk, hcs⟩ := hrel
    clear R0 hbel
    by_cases hlt : k < len
    · have hcx : wr.cell? ⟨b, off + k, none⟩ = some (.int .u8 (zs.getD k 0)) := (hbr.cell (by exact hb)).trans (hc k (by omega))
      have hcg : wr.cell? ⟨w.heap.size, k, none⟩ = some (cs[k]'(by omega)) := by rw [hblk.cell, List.getElem?_eq_getElem]
      have hfg := hblk.free k
      have R : Hid (Below w.heap.size w (wr.setCell ⟨w.heap.size, k, none⟩ (.int .u8 (zs.getD k 0))) ∧ ∃ cs' : List Value, cs'.length = len ∧ Blk (wr.setCell ⟨w.heap.size, k, none⟩ (.int .u8 (zs.getD k 0))) w.heap.size 5 cs' ∧ ∀ j, j < k + 1 → cs'[j]? = some (.int .u8 (zs.getD j 0))) := by
        refine ⟨hbr.setCell (by simp) _, cs.set k (.int .u8 (zs.getD k 0)), by simpa using hcl, hblk.set _ _, fun j hj => ?_⟩
        by_cases e : j = k
        · subst e; rw [List.getElem?_set_self (by omega)]
        · rw [List.getElem?_set_ne (by omega)]; exact hcs j (by omega)
      have hin : zs.getD k 0 = zs.getD k 0 := rfl
      clear hcs hblk hbr hc hin
      go_wp2
      go_roundw
      case rel => exact ⟨k + 1, by omega, by go_num, R.out.1, R.out.2⟩
      case measure => simp [intOf]; omega
    · go_wp2
      go_ret
      have hkl : k = len := by omega
      subst hkl
      refine ⟨_, rfl, Or.inr ⟨w.heap.size, ?_, Nat.le_refl _, ?_⟩, hbr⟩
      · simp; omega
      · rw [← map_eq_of zs k hz cs hcl hcs]; exact hblk

set_option maxHeartbeats 400000 in
theorem cloneU8_zero (x : Addr) (cap : Nat) (w : World) : Calls Try.prog 10 #[.slice (some x) 0 cap] w fun e w' => ∃ v, e = .returned v ∧ Own .u8 5 w.heap.size w' v [] ∧ Below w.heap.size w w' := by
  have q : ∀ (w : World) (a : Option Addr) (n c n' c' : Nat), (binOp .eql 30 (.slice a n c) (.slice none n' c')).run Try.prog w = .ok (.bool a.isNone) w := fun w a n c n' c' => Lib.run_eql_slice_nil w _ _ a n c n' c' Try.underlying30
  obtain ⟨i0, hi, hz0, hz1, hz2⟩ := info_parts Try.info5
  go_enter Try.func10, Try.ntmps10
  go_wp2_with (at_make; refine wpList_make_full _ rfl _ _ 30 rfl w.heap.size 5 i0 (.int .u8 0) 1 Try.underlying30 hi hz0 hz1 .i64 .i64 0 0 0 rfl rfl rfl rfl (by rw [hz2]; omega) (by unfold maxLen; omega) (Nat.le_refl _) ?_; intro w1 hown1 hgrow1)
  have R0 : Hid (Own .u8 5 w.heap.size w1 (.slice (some ⟨w.heap.size, 0, none⟩) 0 0) []) := by
    obtain ⟨hl, h | ⟨g, cp, cur, hv, _, hh, _, _, hsz, _⟩⟩ := hown1
    · simp at h
    · simp at hv
      obtain ⟨rfl, rfl⟩ := hv
      have : cur = #[] := by simpa using hsz
      subst this
      exact Or.inr ⟨w.heap.size, rfl, Nat.le_refl _, hh⟩
  have hbel : Below w.heap.size w w1 := (Below.refl _ _).grown hgrow1 (Nat.le_refl _) (by simp)
  clear hown1 hgrow1
  refine wp_loop_rounds 1 ?_
  rw [rounds_succ]
  go_wp2
  go_ret
  exact ⟨_, rfl, R0.out, hbel⟩

/-- coreB1CloneU8: nil for nil; else a new block with the same elements. -/
theorem cloneU8 (a : Option Addr) (len cap : Nat) (zs : List Int) (w : World) (h : IsRow .u8 w a len cap zs) (hlen : len ≤ 1048576) :
    Calls Try.prog 10 #[.slice a len cap] w fun e w' => ∃ v, e = .returned v ∧ Own .u8 5 w.heap.size w' v (zs.take len) ∧ Below w.heap.size w w' := by
  rcases h with ⟨rfl, rfl, rfl, rfl⟩ | ⟨x, rfl, hl, hm, hzl, hc, hw⟩
  · exact (cloneU8_nil 0 0 w).mono fun e w' ⟨he, hw⟩ => ⟨_, he, Or.inl ⟨rfl, rfl⟩, hw ▸ Below.refl _ _⟩
  · by_cases hp : 0 < len
    · obtain ⟨b, off, rfl, hc'⟩ := Go.ints_at hc (by omega)
      exact cloneU8_some b off len cap zs w hlen (by omega) hp hc'
    · obtain rfl : len = 0 := by omega
      simpa using cloneU8_zero x cap w
theorem Try.info22 : (Try.prog.info? 22).map (fun i => (i.zero, i.size, i.bytes)) = some (some (.int .u64 0), 1, 8) := by kernel_rfl

set_option maxHeartbeats 400000 in
theorem cloneU64_nil (n c : Nat) (w : World) : Calls Try.prog 12 #[.slice none n c] w fun e w' => e = .returned (.slice none 0 0) ∧ w' = w := by
  have q : ∀ (w : World) (a : Option Addr) (n c n' c' : Nat), (binOp .eql 33 (.slice a n c) (.slice none n' c')).run Try.prog w = .ok (.bool a.isNone) w := fun w a n c n' c' => Lib.run_eql_slice_nil w _ _ a n c n' c' Try.underlying33
  go_enter Try.func12, Try.ntmps12
  go_wp2
  go_ret
  exact ⟨rfl, rfl⟩

set_option maxHeartbeats 400000 in
theorem cloneU64_some (b off len cap : Nat) (zs : List Int) (w : World) (hlen : len ≤ 1048576) (hz : len ≤ zs.length) (hpos : 0 < len)
    (hc : ∀ j, j < zs.length → w.cell? ⟨b, off + j, none⟩ = some (.int .u64 (zs.getD j 0))) :
    Calls Try.prog 12 #[.slice (some ⟨b, off, none⟩) len cap] w fun e w' => ∃ v, e = .returned v ∧ Own .u64 22 w.heap.size w' v (zs.take len) ∧ Below w.heap.size w w' := by
  have q : ∀ (w : World) (a : Option Addr) (n c n' c' : Nat), (binOp .eql 33 (.slice a n c) (.slice none n' c')).run Try.prog w = .ok (.bool a.isNone) w := fun w a n c n' c' => Lib.run_eql_slice_nil w _ _ a n c n' c' Try.underlying33
  obtain ⟨i0, hi, hz0, hz1, hz2⟩ := info_parts Try.info22
  have hb : b < w.heap.size := World.block_lt_of_cell? _ _ (hc 0 (by omega))
  go_enter Try.func12, Try.ntmps12
  go_wp2_with (at_make; refine wpList_make_full _ rfl _ _ 33 rfl w.heap.size 22 i0 (.int .u64 0) 1 Try.underlying33 hi hz0 hz1 .i64 .i64 len len len rfl rfl rfl rfl (by rw [hz2]; omega) (by unfold maxLen; omega) (Nat.le_refl _) ?_; intro w1 hown1 hgrow1)
  have R0 : Hid (∃ cs : List Value, cs.length = len ∧ Blk w1 w.heap.size 22 cs) := by
    obtain ⟨hl, h | ⟨g, cp, cur, hv, _, hh, _, _, hsz, _⟩⟩ := hown1
    · simp at h
    · simp at hv
      obtain ⟨rfl, rfl⟩ := hv
      exact ⟨cur.toList, by simpa using hsz, by simpa [Blk] using hh⟩
  have hbel : Below w.heap.size w w1 := (Below.refl _ _).grown hgrow1 (Nat.le_refl _) (by simp)
  clear hown1 hgrow1
  go_loopw [4] (fun i wr => ∃ k : Nat, k ≤ len ∧ i = .int .i64 k ∧ Below w.heap.size w wr ∧ ∃ cs : List Value, cs.length = len ∧ Blk wr w.heap.size 22 cs ∧ ∀ j, j < k → cs[j]? = some (.int .u64 (zs.getD j 0))) (fun i _ => len - (intOf i).toNat)
  case atStart =>
    obtain ⟨cs, h1, h2⟩ := R0.out
    exact ⟨0, Nat.zero_le _, rfl, hbel, cs, h1, h2, fun j hj => absurd hj (Nat.not_lt_zero _)⟩
  case round =>
    obtain ⟨k, hk, rfl, hbr, cs, hcl, hblk, hcs⟩ := hrel
    clear R0 hbel
    by_cases hlt : k < len
    · have hcx : wr.cell? ⟨b, off + k, none⟩ = some (.int .u64 (zs.getD k 0)) := (hbr.cell (by exact hb)).trans (hc k (by omega))
      have hcg : wr.cell? ⟨w.heap.size, k, none⟩ = some (cs[k]'(by omega)) := by rw [hblk.cell, List.getElem?_eq_getElem]
      have hfg := hblk.free k
      have R : Hid (Below w.heap.size w (wr.setCell ⟨w.heap.size, k, none⟩ (.int .u64 (zs.getD k 0))) ∧ ∃ cs' : List Value, cs'.length = len ∧ Blk (wr.setCell ⟨w.heap.size, k, none⟩ (.int .u64 (zs.getD k 0))) w.heap.size 22 cs' ∧ ∀ j, j < k + 1 → cs'[j]? = some (.int .u64 (zs.getD j 0))) := by
        refine ⟨hbr.setCell (by simp) _, cs.set k (.int .u64 (zs.getD k 0)), by simpa using hcl, hblk.set _ _, fun j hj => ?_⟩
        by_cases e : j = k
        · subst e; rw [List.getElem?_set_self (by omega)]
        · rw [List.getElem?_set_ne (by omega)]; exact hcs j (by omega)
      have hin : zs.getD k 0 = zs.getD k 0 := rfl
      clear hcs hblk hbr hc hin
      go_wp2
      go_roundw
      case rel => exact ⟨k + 1, by omega, by go_num, R.out.1, R.out.2⟩
      case measure => simp [intOf]; omega
    · go_wp2
      go_ret
      have hkl : k = len := by omega
      subst hkl
      refine ⟨_, rfl, Or.inr ⟨w.heap.size, ?_, Nat.le_refl _, ?_⟩, hbr⟩
      · simp; omega
      · rw [← map_eq_of zs k hz cs hcl hcs]; exact hblk

set_option maxHeartbeats 400000 in
theorem cloneU64_zero (x : Addr) (cap : Nat) (w : World) : Calls Try.prog 12 #[.slice (some x) 0 cap] w fun e w' => ∃ v, e = .returned v ∧ Own .u64 22 w.heap.size w' v [] ∧ Below w.heap.size w w' := by
  have q : ∀ (w : World) (a : Option Addr) (n c n' c' : Nat), (binOp .eql 33 (.slice a n c) (.slice none n' c')).run Try.prog w = .ok (.bool a.isNone) w := fun w a n c n' c' => Lib.run_eql_slice_nil w _ _ a n c n' c' Try.underlying33
  obtain ⟨i0, hi, hz0, hz1, hz2⟩ := info_parts Try.info22
  go_enter Try.func12, Try.ntmps12
  go_wp2_with (at_make; refine wpList_make_full _ rfl _ _ 33 rfl w.heap.size 22 i0 (.int .u64 0) 1 Try.underlying33 hi hz0 hz1 .i64 .i64 0 0 0 rfl rfl rfl rfl (by rw [hz2]; omega) (by unfold maxLen; omega) (Nat.le_refl _) ?_; intro w1 hown1 hgrow1)
  have R0 : Hid (Own .u64 22 w.heap.size w1 (.slice (some ⟨w.heap.size, 0, none⟩) 0 0) []) := by
    obtain ⟨hl, h | ⟨g, cp, cur, hv, _, hh, _, _, hsz, _⟩⟩ := hown1
    · simp at h
    · simp at hv
      obtain ⟨rfl, rfl⟩ := hv
      have : cur = #[] := by simpa using hsz
      subst this
      exact Or.inr ⟨w.heap.size, rfl, Nat.le_refl _, hh⟩
  have hbel : Below w.heap.size w w1 := (Below.refl _ _).grown hgrow1 (Nat.le_refl _) (by simp)
  clear hown1 hgrow1
  refine wp_loop_rounds 1 ?_
  rw [rounds_succ]
  go_wp2
  go_ret
  exact ⟨_, rfl, R0.out, hbel⟩

/-- coreB1CloneU64: nil for nil; else a new block with the same elements. -/
theorem cloneU64 (a : Option Addr) (len cap : Nat) (zs : List Int) (w : World) (h : IsRow .u64 w a len cap zs) (hlen : len ≤ 1048576) :
    Calls Try.prog 12 #[.slice a len cap] w fun e w' => ∃ v, e = .returned v ∧ Own .u64 22 w.heap.size w' v (zs.take len) ∧ Below w.heap.size w w' := by
  rcases h with ⟨rfl, rfl, rfl, rfl⟩ | ⟨x, rfl, hl, hm, hzl, hc, hw⟩
  · exact (cloneU64_nil 0 0 w).mono fun e w' ⟨he, hw⟩ => ⟨_, he, Or.inl ⟨rfl, rfl⟩, hw ▸ Below.refl _ _⟩
  · by_cases hp : 0 < len
    · obtain ⟨b, off, rfl, hc'⟩ := Go.ints_at hc (by omega)
      exact cloneU64_some b off len cap zs w hlen (by omega) hp hc'
    · obtain rfl : len = 0 := by omega
      simpa using cloneU64_zero x cap w
theorem Try.info3 : (Try.prog.info? 3).map (fun i => (i.zero, i.size, i.bytes)) = some (some (.int .i64 0), 1, 8) := by kernel_rfl

set_option maxHeartbeats 400000 in
theorem cloneInts_nil (n c : Nat) (w : World) : Calls Try.prog 13 #[.slice none n c] w fun e w' => e = .returned (.slice none 0 0) ∧ w' = w := by
  have q : ∀ (w : World) (a : Option Addr) (n c n' c' : Nat), (binOp .eql 34 (.slice a n c) (.slice none n' c')).run Try.prog w = .ok (.bool a.isNone) w := fun w a n c n' c' => Lib.run_eql_slice_nil w _ _ a n c n' c' Try.underlying34
  go_enter Try.func13, Try.ntmps13
  go_wp2
  go_ret
  exact ⟨rfl, rfl⟩

set_option maxHeartbeats 400000 in
theorem cloneInts_some (b off len cap : Nat) (zs : List Int) (w : World) (hlen : len ≤ 1048576) (hz : len ≤ zs.length) (hpos : 0 < len)
    (hc : ∀ j, j < zs.length → w.cell? ⟨b, off + j, none⟩ = some (.int .i64 (zs.getD j 0))) :
    Calls Try.prog 13 #[.slice (some ⟨b, off, none⟩) len cap] w fun e w' => ∃ v, e = .returned v ∧ Own .i64 3 w.heap.size w' v (zs.take len) ∧ Below w.heap.size w w' := by
  have q : ∀ (w : World) (a : Option Addr) (n c n' c' : Nat), (binOp .eql 34 (.slice a n c) (.slice none n' c')).run Try.prog w = .ok (.bool a.isNone) w := fun w a n c n' c' => Lib.run_eql_slice_nil w _ _ a n c n' c' Try.underlying34
  obtain ⟨i0, hi, hz0, hz1, hz2⟩ := info_parts Try.info3
  have hb : b < w.heap.size := World.block_lt_of_cell? _ _ (hc 0 (by omega))
  go_enter Try.func13, Try.ntmps13
  go_wp2_with (at_make; refine wpList_make_full _ rfl _ _ 34 rfl w.heap.size 3 i0 (.int .i64 0) 1 Try.underlying34 hi hz0 hz1 .i64 .i64 len len len rfl rfl rfl rfl (by rw [hz2]; omega) (by unfold maxLen; omega) (Nat.le_refl _) ?_; intro w1 hown1 hgrow1)
  have R0 : Hid (∃ cs : List Value, cs.length = len ∧ Blk w1 w.heap.size 3 cs) := by
    obtain ⟨hl, h | ⟨g, cp, cur, hv, _, hh, _, _, hsz, _⟩⟩ := hown1
    · simp at h
    · simp at hv
      obtain ⟨rfl, rfl⟩ := hv
      exact ⟨cur.toList, by simpa using hsz, by simpa [Blk] using hh⟩
  have hbel : Below w.heap.size w w1 := (Below.refl _ _).grown hgrow1 (Nat.le_refl _) (by simp)
  clear hown1 hgrow1
  go_loopw [4] (fun i wr => ∃ k : Nat, k ≤ len ∧ i = .int .i64 k ∧ Below w.heap.size w wr ∧ ∃ cs : List Value, cs.length = len ∧ Blk wr w.heap.size 3 cs ∧ ∀ j, j < k → cs[j]? = some (.int .i64 (zs.getD j 0))) (fun i _ => len - (intOf i).toNat)
  case atStart =>
    obtain ⟨cs, h1, h2⟩ := R0.out
    exact ⟨0, Nat.zero_le _, rfl, hbel, cs, h1, h2, fun j hj => absurd hj (Nat.not_lt_zero _)⟩
  case round =>
    obtain ⟨k, hk, rfl, hbr, cs, hcl, hblk, hcs⟩ := hrel
    clear R0 hbel
    by_cases hlt : k < len
    · have hcx : wr.cell? ⟨b, off + k, none⟩ = some (.int .i64 (zs.getD k 0)) := (hbr.cell (by exact hb)).trans (hc k (by omega))
      have hcg : wr.cell? ⟨w.heap.size, k, none⟩ = some (cs[k]'(by omega)) := by rw [hblk.cell, List.getElem?_eq_getElem]
      have hfg := hblk.free k
      have R : Hid (Below w.heap.size w (wr.setCell ⟨w.heap.size, k, none⟩ (.int .i64 (zs.getD k 0))) ∧ ∃ cs' : List Value, cs'.length = len ∧ Blk (wr.setCell ⟨w.heap.size, k, none⟩ (.int .i64 (zs.getD k 0))) w.heap.size 3 cs' ∧ ∀ j, j < k + 1 → cs'[j]? = some (.int .i64 (zs.getD j 0))) := by
        refine ⟨hbr.setCell (by simp) _, cs.set k (.int .i64 (zs.getD k 0)), by simpa using hcl, hblk.set _ _, fun j hj => ?_⟩
        by_cases e : j = k
        · subst e; rw [List.getElem?_set_self (by omega)]
        · rw [List.getElem?_set_ne (by omega)]; exact hcs j (by omega)
      have hin : zs.getD k 0 = zs.getD k 0 := rfl
      clear hcs hblk hbr hc hin
      go_wp2
      go_roundw
      case rel => exact ⟨k + 1, by omega, by go_num, R.out.1, R.out.2⟩
      case measure => simp [intOf]; omega
    · go_wp2
      go_ret
      have hkl : k = len := by omega
      subst hkl
      refine ⟨_, rfl, Or.inr ⟨w.heap.size, ?_, Nat.le_refl _, ?_⟩, hbr⟩
      · simp; omega
      · rw [← map_eq_of zs k hz cs hcl hcs]; exact hblk

set_option maxHeartbeats 400000 in
theorem cloneInts_zero (x : Addr) (cap : Nat) (w : World) : Calls Try.prog 13 #[.slice (some x) 0 cap] w fun e w' => ∃ v, e = .returned v ∧ Own .i64 3 w.heap.size w' v [] ∧ Below w.heap.size w w' := by
  have q : ∀ (w : World) (a : Option Addr) (n c n' c' : Nat), (binOp .eql 34 (.slice a n c) (.slice none n' c')).run Try.prog w = .ok (.bool a.isNone) w := fun w a n c n' c' => Lib.run_eql_slice_nil w _ _ a n c n' c' Try.underlying34
  obtain ⟨i0, hi, hz0, hz1, hz2⟩ := info_parts Try.info3
  go_enter Try.func13, Try.ntmps13
  go_wp2_with (at_make; refine wpList_make_full _ rfl _ _ 34 rfl w.heap.size 3 i0 (.int .i64 0) 1 Try.underlying34 hi hz0 hz1 .i64 .i64 0 0 0 rfl rfl rfl rfl (by rw [hz2]; omega) (by unfold maxLen; omega) (Nat.le_refl _) ?_; intro w1 hown1 hgrow1)
  have R0 : Hid (Own .i64 3 w.heap.size w1 (.slice (some ⟨w.heap.size, 0, none⟩) 0 0) []) := by
    obtain ⟨hl, h | ⟨g, cp, cur, hv, _, hh, _, _, hsz, _⟩⟩ := hown1
    · simp at h
    · simp at hv
      obtain ⟨rfl, rfl⟩ := hv
      have : cur = #[] := by simpa using hsz
      subst this
      exact Or.inr ⟨w.heap.size, rfl, Nat.le_refl _, hh⟩
  have hbel : Below w.heap.size w w1 := (Below.refl _ _).grown hgrow1 (Nat.le_refl _) (by simp)
  clear hown1 hgrow1
  refine wp_loop_rounds 1 ?_
  rw [rounds_succ]
  go_wp2
  go_ret
  exact ⟨_, rfl, R0.out, hbel⟩

/-- coreB1CloneInts: nil for nil; else a new block with the same elements. -/
theorem cloneInts (a : Option Addr) (len cap : Nat) (zs : List Int) (w : World) (h : IsRow .i64 w a len cap zs) (hlen : len ≤ 1048576) :
    Calls Try.prog 13 #[.slice a len cap] w fun e w' => ∃ v, e = .returned v ∧ Own .i64 3 w.heap.size w' v (zs.take len) ∧ Below w.heap.size w w' := by
  rcases h with ⟨rfl, rfl, rfl, rfl⟩ | ⟨x, rfl, hl, hm, hzl, hc, hw⟩
  · exact (cloneInts_nil 0 0 w).mono fun e w' ⟨he, hw⟩ => ⟨_, he, Or.inl ⟨rfl, rfl⟩, hw ▸ Below.refl _ _⟩
  · by_cases hp : 0 < len
    · obtain ⟨b, off, rfl, hc'⟩ := Go.ints_at hc (by omega)
      exact cloneInts_some b off len cap zs w hlen (by omega) hp hc'
    · obtain rfl : len = 0 := by omega
      simpa using cloneInts_zero x cap w
end Go.Proofs.Qxb6602866a

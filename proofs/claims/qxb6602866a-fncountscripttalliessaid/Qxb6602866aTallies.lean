/-
  The walk of FnCountScriptTallies (function 4).
-/
import Derived.Test.Qxb6602866aClones
import Derived.Test.Qxb6602866aCount
namespace Go.Proofs.Qxb6602866a
open Go.RowKit
set_option linter.unusedSimpArgs false
set_option linter.unusedVariables false

set_option maxHeartbeats 400000 in
theorem tallies_long (a : Option Addr) (n c : Nat) (w : World) (h : 1048576 < n) (hm : n ≤ maxLen) : Calls Try.prog 4 #[.slice a n c] w fun e w' => e = .returned (.bool true) ∧ w' = w := by
  unfold maxLen at hm
  go_enter Try.func4, Try.ntmps4
  go_wp2
  go_ret
  exact ⟨rfl, rfl⟩

theorem at_of {k : IntKind} {w : World} {g : Nat} {t : TypeId} {xs : List Int} {i : Nat} (h : Blk w g t (xs.map (Value.int k))) (hi : i < xs.length) :
    ∃ x, w.cell? ⟨g, i, none⟩ = some (.int k x) ∧ Hid (x = xs.getD i 0) :=
  ⟨xs.getD i 0, by rw [h.cell]; simp [List.getElem?_eq_getElem hi], rfl⟩

set_option maxHeartbeats 400000 in
theorem tallies_short (a : Option Addr) (n c : Nat) (zs : List Int) (w : World) (h : n ≤ 1048576) (hr : IsRow .u8 w a n c zs) : Calls Try.prog 4 #[.slice a n c] w fun e w' => e = .returned (.bool true) ∧ Below w.heap.size w w' := by
  have hzl : Hid (n ≤ zs.length) := by
    rcases hr with ⟨rfl, rfl, rfl, rfl⟩ | ⟨x, rfl, hl, hm, hzl, hc, hw⟩
    · exact Nat.zero_le _
    · show n ≤ zs.length; omega
  have HR : Hid (IsRow .u8 w a n c zs) := hr
  clear hr
  go_enter Try.func4, Try.ntmps4
  go_wp2_with (first | (go_at_call 10; refine (cloneU8 _ _ _ zs _ HR.out h).mono ?_; rintro e w1 ⟨v, rfl, hown, hbel⟩) | (go_at_call 9; go_in))
  have hxl : (zs.take n).length ≤ 1048576 := by rw [List.length_take]; omega
  generalize zs.take n = xs at hown hxl
  clear HR hzl h zs
  rcases hown with ⟨hv, hx⟩ | ⟨g, hv, hg, hblk⟩
  · subst hv
    refine wp_loop_rounds 1 ?_
    rw [rounds_succ]
    go_wp2
    refine wp_loop_rounds 1 ?_
    rw [rounds_succ]
    go_wp2
    refine wp_loop_rounds 1 ?_
    rw [rounds_succ]
    go_wp2
    go_ret
    exact ⟨rfl, (hbel.alloc hbel.size _).alloc (by have := hbel.size; simp; omega) _⟩
  · subst hv
    have hF0 : Blk (w1.alloc (Obj.cells #[Value.int IntKind.u64 0, Value.int IntKind.u64 0] 24)) w1.heap.size 24 [.int .u64 0, .int .u64 0] := Blk.new _ _ _
    have hb0 := hblk.alloc (Obj.cells #[Value.int IntKind.u64 0, Value.int IntKind.u64 0] 24)
    have hbel0 := hbel.alloc hbel.size (Obj.cells #[Value.int IntKind.u64 0, Value.int IntKind.u64 0] 24)
    have hgF : g < w1.heap.size := hblk.lt
    have hFs : w.heap.size ≤ w1.heap.size := hbel.size
    clear hblk hbel
    generalize w1.heap.size = F at *
    go_loopw [4] (fun i wr => ∃ k : Nat, k ≤ xs.length ∧ i = .int .i64 k ∧ Blk wr F 24 [.int .u64 (cnt 1 (xs.take k)), .int .u64 (cnt 2 (xs.take k))] ∧ Blk wr g 5 (xs.map (.int .u8)) ∧ Below w.heap.size w wr) (fun i _ => xs.length - (intOf i).toNat)
    case atStart => exact ⟨0, Nat.zero_le _, rfl, by simpa [cnt_nil] using hF0, hb0, hbel0⟩
    case round =>
      clear hF0 hb0 hbel0
      obtain ⟨k, hk, rfl, hF, hb, hbel⟩ := hrel
      by_cases hlt : k < xs.length
      · obtain ⟨x, hcx, HX⟩ := at_of hb hlt
        have b1 := cnt_bd 1 (xs.take k)
        have b2 := cnt_bd 2 (xs.take k)
        have bl : (xs.take k).length ≤ k := List.length_take_le _ _
        go_wp2_with (go_at_call 7; refine (zzcount F _ _ _ _ hF (by omega) (by omega) (by omega) (by omega)).mono ?_; rintro e w2 ⟨rfl, hF2, hbut⟩)
        have hk1 : k < xs.length := hlt
        rw [HX.out, ← cnt_take 1 xs k hk1, ← cnt_take 2 xs k hk1] at hF2
        have hb2 := hb.but hbut (by omega)
        have hbel2 := hbel.trans (hbut.below hbel.size (by rintro j rfl; exact hFs))
        clear hF hb hbel hbut
        go_roundw
        case rel => exact ⟨k + 1, by omega, by go_num, hF2, hb2, hbel2⟩
        case measure => simp [intOf]; omega
      · obtain rfl : k = xs.length := by omega
        rw [List.take_length] at hF
        go_wp2_with fail
        have hB0 : Blk (wr.alloc (Obj.cells #[Value.int IntKind.u64 0, Value.int IntKind.u64 0] 24)) wr.heap.size 24 [.int .u64 0, .int .u64 0] := Blk.new _ _ _
        have hb0 := hb.alloc (Obj.cells #[Value.int IntKind.u64 0, Value.int IntKind.u64 0] 24)
        have hF0 := hF.alloc (Obj.cells #[Value.int IntKind.u64 0, Value.int IntKind.u64 0] 24)
        have hbel0 := hbel.alloc hbel.size (Obj.cells #[Value.int IntKind.u64 0, Value.int IntKind.u64 0] 24)
        have hFB : F < wr.heap.size := hF.lt
        have hgB : g < wr.heap.size := hb.lt
        have hBs : w.heap.size ≤ wr.heap.size := hbel.size
        clear hb hF hbel
        generalize wr.heap.size = B at *
        go_loopw [6] (fun i wq => ∃ k : Nat, k ≤ xs.length ∧ i = .int .i64 ((k : Int) - 1) ∧ Blk wq B 24 [.int .u64 (cnt 1 (xs.drop k)), .int .u64 (cnt 2 (xs.drop k))] ∧ Blk wq F 24 [.int .u64 (cnt 1 xs), .int .u64 (cnt 2 xs)] ∧ Blk wq g 5 (xs.map (.int .u8)) ∧ Below w.heap.size w wq) (fun i _ => (intOf i + 1).toNat)
        case atStart => exact ⟨xs.length, Nat.le_refl _, rfl, by simpa [cnt_nil] using hB0, hF0, hb0, hbel0⟩
        case round =>
          clear hF0 hb0 hbel0 hB0
          obtain ⟨k, hk, rfl, hB, hF, hb, hbel⟩ := hrel
          by_cases hlt : 0 < k
          · obtain ⟨m, rfl⟩ : ∃ m, k = m + 1 := ⟨k - 1, by omega⟩
            obtain ⟨x, hcx, HX⟩ := at_of hb (show m < xs.length by omega)
            have b1 := cnt_bd 1 (xs.drop (m + 1))
            have b2 := cnt_bd 2 (xs.drop (m + 1))
            have bl : (xs.drop (m + 1)).length ≤ xs.length := by rw [List.length_drop]; omega
            rw [show (((m + 1 : Nat) : Int) - 1) = (m : Int) by omega]
            go_wp2_with (go_at_call 7; refine (zzcount B _ _ _ _ hB (by omega) (by omega) (by omega) (by omega)).mono ?_; rintro e w2 ⟨rfl, hB2, hbut⟩)
            rw [HX.out, ← cnt_drop 1 xs m (by omega), ← cnt_drop 2 xs m (by omega)] at hB2
            have hb2 := hb.but hbut (by omega)
            have hF2 := hF.but hbut (by omega)
            have hbel2 := hbel.trans (hbut.below hbel.size (by rintro j rfl; exact hBs))
            clear hF hb hbel hbut hB
            go_roundw
            case rel => exact ⟨m, by omega, by go_num, hB2, hF2, hb2, hbel2⟩
            case measure => simp [intOf]
          · obtain rfl : k = 0 := by omega
            rw [List.drop_zero] at hB
            go_wp2_with fail
            go_loop [7, 8, 9] (fun p q i => ∃ k : Nat, k ≤ xs.length ∧ i = .int .i64 k ∧ p = .int .u64 (cnt 1 (xs.take k)) ∧ q = .int .u64 (cnt 2 (xs.take k))) (fun _ _ i => xs.length - (intOf i).toNat)
            case atStart => exact ⟨0, Nat.zero_le _, rfl, by simp [cnt_nil], by simp [cnt_nil]⟩
            case round =>
              obtain ⟨k, hk, rfl, rfl, rfl⟩ := hrel
              by_cases hlt : k < xs.length
              · obtain ⟨x, hcx, HX⟩ := at_of hb hlt
                have b1 := cnt_bd 1 (xs.take k)
                have b2 := cnt_bd 2 (xs.take k)
                have bl : (xs.take k).length ≤ k := List.length_take_le _ _
                have HT : Hid (cnt 1 (xs.take (k + 1)) = cnt 1 (xs.take k) + inc 1 x ∧ cnt 2 (xs.take (k + 1)) = cnt 2 (xs.take k) + inc 2 x) := by
                  rw [HX.out]; exact ⟨cnt_take 1 xs k hlt, cnt_take 2 xs k hlt⟩
                clear hF hb hbel hB HX
                by_cases h1 : x = 1
                · subst h1
                  go_wp2
                  go_round
                  case rel => exact ⟨k + 1, by omega, by go_num, by rw [HT.out.1]; simp [inc], by rw [HT.out.2]; simp [inc]⟩
                  case measure => simp [intOf]; omega
                · have e1 : (x == 1) = false := by simpa using h1
                  by_cases h2 : x = 2
                  · subst h2
                    go_wp2
                    go_round
                    case rel => exact ⟨k + 1, by omega, by go_num, by rw [HT.out.1]; simp [inc], by rw [HT.out.2]; simp [inc]⟩
                    case measure => simp [intOf]; omega
                  · have e2 : (x == 2) = false := by simpa using h2
                    go_wp2
                    go_round
                    case rel => exact ⟨k + 1, by omega, by go_num, by rw [HT.out.1]; simp [inc, h1], by rw [HT.out.2]; simp [inc, h2]⟩
                    case measure => simp [intOf]; omega
              · obtain rfl : k = xs.length := by omega
                rw [List.take_length]
                have cF0 : wr.cell? ⟨F, 0, none⟩ = some (.int .u64 (cnt 1 xs)) := hF.cell 0
                have cF1 : wr.cell? ⟨F, 1, none⟩ = some (.int .u64 (cnt 2 xs)) := hF.cell 1
                have cB0 : wr.cell? ⟨B, 0, none⟩ = some (.int .u64 (cnt 1 xs)) := hB.cell 0
                have cB1 : wr.cell? ⟨B, 1, none⟩ = some (.int .u64 (cnt 2 xs)) := hB.cell 1
                clear hF hB hb
                go_wp2
                go_ret
                exact ⟨rfl, hbel⟩
end Go.Proofs.Qxb6602866a

/-
  FnHandOnMatchesModel (function 5): the main way.
-/
import Derived.Test.Qxb6602866aMatchKit
namespace Go.Proofs.Qxb6602866a
open Go.RowKit
set_option linter.unusedSimpArgs false
set_option linter.unusedVariables false

set_option maxRecDepth 100000 in
set_option maxHeartbeats 4000000 in
theorem match_main (i : Nat) (a1 : Option Addr) (len1 cap1 : Nat) (z1 : List Int) (st : Int) (a3 : Option Addr) (len3 cap3 : Nat) (z3 : List Int) (a4 : Option Addr) (len4 cap4 : Nat) (z4 : List Int) (gr c0 c1 c2 c3 c4 : Int) (w : World)
    (hr1 : IsRow .u64 w a1 len1 cap1 z1) (hr3 : IsRow .u64 w a3 len3 cap3 z3) (hr4 : IsRow .i64 w a4 len4 cap4 z4) (hi : i < len1) (h13 : len1 ≤ len3) (h3 : len3 ≤ 4096) (h4 : len4 ≤ 4096) :
    Calls Try.prog 5 #[.int .i64 ((i : Int) + 1), .slice a1 len1 cap1, .int .u8 st, .slice a3 len3 cap3, .slice a4 len4 cap4, .int .u64 gr, .int .u64 c0, .int .u64 c1, .int .u64 c2, .int .u64 c3, .int .u64 c4] w fun e w' => e = .returned (.bool true) ∧ Below w.heap.size w w' := by
  have H1 : Hid (IsRow .u64 w a1 len1 cap1 z1) := hr1
  have H3 : Hid (IsRow .u64 w a3 len3 cap3 z3) := hr3
  have H4 : Hid (IsRow .i64 w a4 len4 cap4 z4) := hr4
  clear hr1 hr3 hr4
  obtain ⟨i0, hi0, hz0, hz1, hz2⟩ := info_parts Mm.info4
  obtain ⟨j0, hj0, hy0, hy1, hy2⟩ := info_parts Mm.info3
  obtain ⟨rn, HRN⟩ : ∃ rn, Hid (rn = z1.take len1) := ⟨_, rfl⟩
  obtain ⟨ln, HLN⟩ : ∃ ln, Hid (ln = z3.take len3) := ⟨_, rfl⟩
  obtain ⟨q, HQ⟩ : ∃ q, Hid (q = z4.take len4) := ⟨_, rfl⟩
  have hrl : rn.length = len1 := by rw [HRN.out]; exact H1.out.len.1
  have hll : ln.length = len3 := by rw [HLN.out]; exact H3.out.len.1
  have hql : q.length = len4 := by rw [HQ.out]; exact H4.out.len.1
  obtain ⟨ln', HL⟩ : ∃ ln', Hid (ln' = ln.set i (rn.getD i 0)) := ⟨_, rfl⟩
  have hll' : ln'.length = len3 := by rw [HL.out]; simpa using hll
  go_enter Try.func5, Try.ntmps5
  go_wp2_with (first | (go_at_call 11; go_in))
  refine (cloneU64 a1 len1 cap1 z1 _ H1.out (by omega)).mono ?_
  rintro e w1 ⟨v1, rfl, ho1, hb1⟩
  rw [← HRN.out] at ho1
  obtain ⟨R0, hv1, hR0b, hR0⟩ := ho1.pos (by omega)
  rw [hrl] at hv1
  subst hv1
  go_wp2_with fail
  refine (cloneU64 a3 len3 cap3 z3 _ (H3.out.below hb1) (by omega)).mono ?_
  rintro e w2 ⟨v2, rfl, ho2, hb2⟩
  rw [← HLN.out] at ho2
  obtain ⟨L0, hv2, hL0b, hL0⟩ := ho2.pos (by omega)
  rw [hll] at hv2
  subst hv2
  have X2 : Hid (Below w.heap.size w w2) := hb1.trans (hb2.mono hb1.size)
  go_wp2_with fail
  refine (cloneInts a4 _ cap4 z4 _ (H4.out.below X2.out) (by omega)).mono ?_
  rintro e w3 ⟨v3, rfl, ho3, hb3⟩
  rw [← HQ.out] at ho3
  obtain ⟨qa, hv3, hq3, hqa⟩ := ho3.form
  rw [hql] at hv3 hqa
  subst hv3
  have X3 : Hid (Below w.heap.size w w3) := X2.out.trans (hb3.mono X2.out.size)
  go_wp2_with fail
  have Y2 : Hid (Own .u64 22 w1.heap.size w3 (.slice (some ⟨L0, 0, none⟩) len3 len3) ln) := ho2.below hb3 (Nat.le_refl _)
  refine (cloneU64_own _ ln _ _ Y2.out (by omega)).mono ?_
  rintro e w4 ⟨v4, rfl, ho4, hb4⟩
  obtain ⟨WL, hv4, hWLb, hWL⟩ := ho4.pos (by omega)
  rw [hll] at hv4
  subst hv4
  obtain ⟨ri, cRi, HRi⟩ : ∃ r, w4.cell? ⟨R0, i, none⟩ = some (.int .u64 r) ∧ Hid (r = rn.getD i 0) := ⟨rn.getD i 0, by rw [(((hR0.below hb2 hR0.lt).below hb3 (by have := hR0.lt; have := hb2.size; omega)).below hb4 (by have := hR0.lt; have := hb2.size; have := hb3.size; omega)).cell]; simp [List.getElem?_eq_getElem (show i < rn.length by omega)], rfl⟩
  obtain ⟨li, cWi⟩ : ∃ x, w4.cell? ⟨WL, i, none⟩ = some (.int .u64 x) := ⟨ln.getD i 0, by rw [hWL.cell]; simp [List.getElem?_eq_getElem (show i < ln.length by omega)]⟩
  have fWi := hWL.free i
  have hsz : w.heap.size ≤ w1.heap.size ∧ w1.heap.size ≤ w2.heap.size ∧ w2.heap.size ≤ w3.heap.size ∧ w3.heap.size ≤ w4.heap.size := ⟨hb1.size, hb2.size, hb3.size, hb4.size⟩
  have P0 : Hid (∀ w5 : World, (w4.setCell ⟨WL, i, none⟩ (.int .u64 ri)).grownBy w5 none → Blk w5 w4.heap.size 4 (bl (fun _ => false) (len1 + 1)) → Mm.Prep w5 w len1 len3 len4 qa rn ln ln' q R0 L0 WL w4.heap.size (Mm.due rn ln' i 0)) := by
    intro w5 hg hd
    have g1 := hR0.lt
    have g2 := hL0.lt
    have g3 := hWL.lt
    refine ⟨?_, ?_, ?_, ?_, ?_, ⟨by omega, by omega, by omega, by omega⟩, ?_⟩
    · exact ((((hR0.below hb2 (by omega)).below hb3 (by omega)).below hb4 (by omega)).other (by show R0 ≠ WL; omega) _).grown hg (by simp)
    · exact (((hL0.below hb3 (by omega)).below hb4 (by omega)).other (by show L0 ≠ WL; omega) _).grown hg (by simp)
    · have := (hWL.set i (.int .u64 ri)).grown hg (by simp)
      rw [HL.out, List.map_set, ← HRi.out]
      exact this
    · exact Mm.own_grown (Mm.own_set (a := ⟨WL, i, none⟩) (Mm.own_mono (ho3.below hb4 (Nat.le_refl _)) (Nat.le_trans hsz.1 hsz.2.1)) hWL (by decide) _) hg
    · rw [Mm.due_zero]; exact hd
    · exact (((X3.out.trans (hb4.mono X3.out.size))).setCell (by show w.heap.size ≤ WL; omega) _).grown hg (by simp; omega) (by simp)
  have hR0s : R0 < w4.heap.size := World.block_lt_of_cell? _ _ cRi
  clear ho1 ho2 ho3 ho4 hb1 hb2 hb3 hb4 hR0b hL0b hR0 hL0 hWLb hWL X2 X3 Y2 HRN HLN HQ H1 H3 H4 hq3 hqa HRi
  go_wp2_with (at_make; refine wpList_make_full _ rfl _ _ 38 rfl 0 4 i0 (.bool false) 1 Try.underlying38 hi0 hz0 hz1 .i64 .i64 _ _ (len1 + 1) rfl rfl (by omega) (by omega) (by rw [hz2]; omega) (by unfold maxLen; omega) (Nat.zero_le _) ?_; intro w5 hown5 hgrow5)
  have P1 : Hid (Mm.Prep w5 w len1 len3 len4 qa rn ln ln' q R0 L0 WL w4.heap.size (Mm.due rn ln' i 0)) := by
    refine P0.out w5 hgrow5 ?_
    have hm := made_blk hown5
    simp at hm
    exact hm
  clear P0 hown5 hgrow5 cRi cWi fWi hR0s
  generalize w4.heap.size = DU at *
  clear hsz
  go_loopw [26] (fun t wr => ∃ k : Nat, k ≤ len1 ∧ t = .int .i64 ((k : Int) + 1) ∧ Mm.Prep wr w len1 len3 len4 qa rn ln ln' q R0 L0 WL DU (Mm.due rn ln' i k)) (fun t _ => len1 + 1 - (intOf t).toNat)
  case atStart => exact ⟨0, Nat.zero_le _, rfl, P1.out⟩
  case round =>
    clear P1
    obtain ⟨k, hk, rfl, pp⟩ := hrel
    by_cases hlt : k < len1
    · have fD := pp.fdu.free (k + 1)
      obtain ⟨dv, cD⟩ : ∃ dv, wr.cell? ⟨DU, k + 1, none⟩ = some (.bool dv) := ⟨_, by rw [pp.fdu.cell, bl_at _ _ _ (by omega)]⟩
      have hk1 : (k : Int) < (len1 : Int) := by omega
      have hk3 : (k : Int) < (len3 : Int) := by omega
      by_cases hki : k = i
      · subst hki
        have PP : Hid (∀ W : World, W = (wr.setCell ⟨DU, k + 1, none⟩ (.bool false)).drew → Mm.Prep W w len1 len3 len4 qa rn ln ln' q R0 L0 WL DU (Mm.due rn ln' k (k + 1))) := by
          rintro W rfl
          exact (pp.mark (k + 1) false (Mm.due_step rn ln' k k false (by simp))).drew
        clear pp
        go_wp2
        go_region
        go_wp2
        go_roundw
        case rel => first | exact ⟨k + 1, by omega, by go_num, PP.out _ rfl⟩ | ((repeat apply Exists.intro); exact ⟨⟨k + 1, by omega, by go_num, PP.out _ rfl⟩, rfl⟩)
        case measure => simp [intOf]; omega
      · obtain ⟨ra, cRj, HRj⟩ : ∃ ra, wr.cell? ⟨R0, k, none⟩ = some (.int .u64 ra) ∧ Hid (ra = rn.getD k 0) := ⟨rn.getD k 0, by rw [pp.fr0.cell]; simp [List.getElem?_eq_getElem (show k < rn.length by omega)], rfl⟩
        obtain ⟨la, cLj, HLj⟩ : ∃ la, wr.cell? ⟨WL, k, none⟩ = some (.int .u64 la) ∧ Hid (la = ln'.getD k 0) := ⟨ln'.getD k 0, by rw [pp.fwl.cell]; simp [List.getElem?_eq_getElem (show k < ln'.length by omega)], rfl⟩
        obtain ⟨bu, hbu, HBU⟩ : ∃ bu, (ra == IntKind.u64.wrap (la + 1)) = bu ∧ Hid (bu = duB (rn.getD k 0) (ln'.getD k 0)) := ⟨_, rfl, by rw [HRj.out, HLj.out]; rfl⟩
        have PP : Hid (∀ W : World, W = (wr.setCell ⟨DU, k + 1, none⟩ (.bool bu)).drew → Mm.Prep W w len1 len3 len4 qa rn ln ln' q R0 L0 WL DU (Mm.due rn ln' i (k + 1))) := by
          rintro W rfl
          exact (pp.mark (k + 1) bu (Mm.due_step rn ln' i k bu (by rw [HBU.out]; simp [hki]))).drew
        clear pp HRj HLj HBU
        have hgA : ((k : Int) + 1 != (i : Int) + 1) = true := by simp; omega
        have hgB : ((k : Int) + 1 == (i : Int) + 1) = false := by simp; omega
        have hgC : ((k : Int) == (i : Int)) = false := by simp; omega
        have hgD : ((k : Int) != (i : Int)) = true := by simp; omega
        have hgF : (k == i) = false := by simpa using hki
        cases bu
        all_goals
          go_wp2
          go_region
          go_wp2
          go_roundw
          case rel => first | exact ⟨k + 1, by omega, by go_num, PP.out _ rfl⟩ | ((repeat apply Exists.intro); exact ⟨⟨k + 1, by omega, by go_num, PP.out _ rfl⟩, rfl⟩)
          case measure => simp [intOf]; omega
    · obtain rfl : k = len1 := by omega
      have P1 : Hid (Mm.Prep wr w k len3 len4 qa rn ln ln' q R0 L0 WL DU (Mm.left rn ln' i k (q.take 0))) := by
        rw [List.take_zero]; exact pp.same (fun x => by simp [Mm.left, inB])
      clear pp
      go_wp2
      go_loopw [27] (fun t wr => ∃ u : Nat, u ≤ len4 ∧ t = .int .i64 u ∧ Mm.Prep wr w k len3 len4 qa rn ln ln' q R0 L0 WL DU (Mm.left rn ln' i k (q.take u))) (fun t _ => len4 - (intOf t).toNat)
      case atStart => exact ⟨0, Nat.zero_le _, rfl, P1.out⟩
      case round =>
        clear P1
        obtain ⟨u, hu, rfl, pp⟩ := hrel
        by_cases hlt : u < len4
        · obtain ⟨Q0, hqa, x, cX, HX⟩ := Mm.own_at pp.fq0 hql hlt
          subst hqa
          have HT : Hid (q.take (u + 1) = q.take u ++ [x]) := by rw [HX.out]; exact take_snoc' (by omega)
          by_cases h1 : x < 1
          · have PP : Hid (Mm.Prep wr w k len3 len4 (some ⟨Q0, 0, none⟩) rn ln ln' q R0 L0 WL DU (Mm.left rn ln' i k (q.take (u + 1)))) := by
              rw [HT.out]; exact pp.same (Mm.left_out _ _ _ _ _ _ (Or.inl h1))
            have hd1 : decide (1 ≤ x) = false := decide_eq_false (by omega)
            clear pp
            go_wp2
            go_roundw
            case rel => first | exact ⟨u + 1, by omega, by go_num, PP.out⟩ | ((repeat apply Exists.intro); exact ⟨⟨u + 1, by omega, by go_num, PP.out⟩, rfl⟩)
            case measure => simp [intOf]; omega
          · by_cases h2 : (k : Int) < x
            · have PP : Hid (Mm.Prep wr w k len3 len4 (some ⟨Q0, 0, none⟩) rn ln ln' q R0 L0 WL DU (Mm.left rn ln' i k (q.take (u + 1)))) := by
                rw [HT.out]; exact pp.same (Mm.left_out _ _ _ _ _ _ (Or.inr h2))
              have hd1 : decide (1 ≤ x) = true := decide_eq_true (by omega)
              have hd2 : decide (x ≤ (k : Int)) = false := decide_eq_false (by omega)
              clear pp
              go_wp2
              go_roundw
              case rel => first | exact ⟨u + 1, by omega, by go_num, PP.out⟩ | ((repeat apply Exists.intro); exact ⟨⟨u + 1, by omega, by go_num, PP.out⟩, rfl⟩)
              case measure => simp [intOf]; omega
            · obtain ⟨X, rfl⟩ : ∃ X : Nat, x = (X : Int) := ⟨x.toNat, by omega⟩
              obtain ⟨dv, cD⟩ : ∃ dv, wr.cell? ⟨DU, X, none⟩ = some (.bool dv) := ⟨_, by rw [pp.fdu.cell, bl_at _ _ _ (by omega)]⟩
              have fD := pp.fdu.free X
              have PP : Hid (Mm.Prep (wr.setCell ⟨DU, X, none⟩ (.bool false)) w k len3 len4 (some ⟨Q0, 0, none⟩) rn ln ln' q R0 L0 WL DU (Mm.left rn ln' i k (q.take (u + 1)))) := by
                rw [HT.out]; exact pp.mark X false (Mm.left_strike _ _ _ _ _ _)
              have hd1 : decide (1 ≤ (X : Int)) = true := decide_eq_true (by omega)
              have hd2 : decide ((X : Int) ≤ (k : Int)) = true := decide_eq_true (by omega)
              clear pp
              go_wp2
              go_roundw
              case rel => first | exact ⟨u + 1, by omega, by go_num, PP.out⟩ | ((repeat apply Exists.intro); exact ⟨⟨u + 1, by omega, by go_num, PP.out⟩, rfl⟩)
              case measure => simp [intOf]; omega
        · obtain rfl : u = len4 := by omega
          rw [List.take_of_length_le (by omega)] at pp
          have P1 : Hid (Mm.Prep wr w k len3 u qa rn ln ln' q R0 L0 WL DU (Mm.left rn ln' i k q)) := pp
          clear pp
          go_wp2_with (at_make; refine wpList_make_own _ rfl _ _ 34 rfl 0 3 j0 (.int .i64 0) 1 Try.underlying34 hj0 hy0 hy1 .i64 .i64 _ (u + k) rfl rfl (by omega) (by rw [hy2]; omega) (by unfold maxLen; omega) (Nat.zero_le _) ?_; intro w6 hown6 hgrow6)
          have P2 : Hid (Mm.PF w6 w k len3 u qa rn ln ln' q R0 L0 WL DU wr.heap.size (u + k) (Mm.left rn ln' i k q) (q.take 0)) := Mm.PF.start P1.out hown6 hgrow6
          clear P1 hown6 hgrow6
          generalize wr.heap.size = FU at *
          go_loopw [29, 30] (fun fv t wr => ∃ j : Nat, j ≤ u ∧ t = .int .i64 j ∧ fv = .slice (some ⟨FU, 0, none⟩) j (u + k) ∧ Mm.PF wr w k len3 u qa rn ln ln' q R0 L0 WL DU FU (u + k) (Mm.left rn ln' i k q) (q.take j)) (fun _ t _ => u - (intOf t).toNat)
          case atStart => exact ⟨0, Nat.zero_le _, rfl, rfl, P2.out⟩
          case round =>
            clear P2
            obtain ⟨j, hj, rfl, rfl, pf⟩ := hrel
            by_cases hlt : j < u
            · obtain ⟨Q0, hqa, x, cX, HX⟩ := Mm.own_at pf.pp.fq0 hql hlt
              subst hqa
              have HT : Hid (q.take (j + 1) = q.take j ++ [x]) := by rw [HX.out]; exact take_snoc' (by omega)
              have hjl : (q.take j).length = j := by rw [List.length_take]; omega
              have hf := pf.ff
              rw [hjl] at hf
              have PP : Hid (∀ w7 : World, w7.ownsRow 0 3 1 (.slice (some ⟨FU, 0, none⟩) (j + 1) (u + k)) (j + 1) ((q.take j).map (Value.int .i64) ++ [.int .i64 x]) → (wr.alloc (Obj.cells #[.int .i64 x] 3)).grownBy w7 (some FU) → Mm.PF w7 w k len3 u (some ⟨Q0, 0, none⟩) rn ln ln' q R0 L0 WL DU FU (u + k) (Mm.left rn ln' i k q) (q.take (j + 1))) := by
                intro w7 h1 h2
                rw [HT.out]
                exact pf.push (by rw [hjl]; exact h1) h2
              clear pf hjl
              go_wp2_with (at_builtin; refine wpList_append_fits _ rfl _ _ 34 rfl 0 3 j0 1 Try.underlying34 hj0 hy1 FU j (u + k) ((q.take j).map (Value.int .i64)) (by rfl) (by exact hf.alloc _) ⟨wr.heap.size, 0, none⟩ 1 1 [.int .i64 x] (by rfl) rfl (by exact cell_one_new _ _ _) (by simp [Value.oneCell']) (by omega) ?_; intro w7 hown7 hgrow7)
              have P7 := PP.out w7 hown7 hgrow7
              clear hown7 hgrow7 hf PP
              go_roundw
              case rel => first | exact ⟨j + 1, by omega, by go_num, by go_num, P7⟩ | ((repeat apply Exists.intro); exact ⟨⟨j + 1, by omega, by go_num, by go_num, P7⟩, rfl⟩)
              case measure => simp [intOf]; omega
            · obtain rfl : j = u := by omega
              rw [List.take_of_length_le (by omega)] at pf
              have P2 : Hid (Mm.PF wr w k len3 j qa rn ln ln' q R0 L0 WL DU FU (j + k) (Mm.left rn ln' i k q) (fullQ rn ln' i q 0)) := pf
              clear pf
              go_wp2
              go_loopw [29, 31] (fun fv t wr => ∃ d : Nat, d ≤ k ∧ t = .int .i64 ((d : Int) + 1) ∧ fv = .slice (some ⟨FU, 0, none⟩) (fullQ rn ln' i q d).length (j + k) ∧ Mm.PF wr w k len3 j qa rn ln ln' q R0 L0 WL DU FU (j + k) (Mm.left rn ln' i k q) (fullQ rn ln' i q d)) (fun _ t _ => k + 1 - (intOf t).toNat)
              case atStart => exact ⟨0, Nat.zero_le _, rfl, by simp [fullQ, hql], P2.out⟩
              case round =>
                clear P2
                obtain ⟨d, hd, rfl, rfl, pf⟩ := hrel
                obtain ⟨F, HF⟩ : ∃ F, Hid (F = fullQ rn ln' i q d) := ⟨_, rfl⟩
                have hFl : F.length ≤ j + d := by rw [HF.out]; have := (fullQ_len rn ln' i q d).1; omega
                rw [← HF.out] at pf ⊢
                by_cases hlt : d < k
                · obtain ⟨bj, cD, HBJ⟩ : ∃ bj, wr.cell? ⟨DU, d + 1, none⟩ = some (.bool bj) ∧ Hid (bj = joinB rn ln' i F d) := ⟨_, by rw [pf.pp.fdu.cell, bl_at _ _ _ (by omega)], by rw [HF.out]; exact Mm.joinB_left hlt⟩
                  cases bj
                  · have HS : Hid (fullQ rn ln' i q (d + 1) = F) := by
                      show _ = _
                      rw [fullQ, ← HF.out, ← HBJ.out]; simp
                    have PP : Hid (Mm.PF wr w k len3 j qa rn ln ln' q R0 L0 WL DU FU (j + k) (Mm.left rn ln' i k q) (fullQ rn ln' i q (d + 1))) := by rw [HS.out]; exact pf
                    clear pf HBJ
                    go_wp2
                    go_roundw
                    case rel => first | exact ⟨d + 1, by omega, by go_num, by rw [HS.out], PP.out⟩ | ((repeat apply Exists.intro); exact ⟨⟨d + 1, by omega, by go_num, by rw [HS.out], PP.out⟩, rfl⟩)
                    case measure => simp [intOf]; omega
                  · have HS : Hid (fullQ rn ln' i q (d + 1) = F ++ [(d : Int) + 1]) := by
                      show _ = _
                      rw [fullQ, ← HF.out, ← HBJ.out]; simp
                    have PP : Hid (∀ w7 : World, w7.ownsRow 0 3 1 (.slice (some ⟨FU, 0, none⟩) (F.length + 1) (j + k)) (F.length + 1) (F.map (Value.int .i64) ++ [.int .i64 ((d : Int) + 1)]) → (wr.alloc (Obj.cells #[.int .i64 ((d : Int) + 1)] 3)).grownBy w7 (some FU) → Mm.PF w7 w k len3 j qa rn ln ln' q R0 L0 WL DU FU (j + k) (Mm.left rn ln' i k q) (fullQ rn ln' i q (d + 1))) := by
                      intro w7 h1 h2
                      rw [HS.out]
                      exact pf.push h1 h2
                    have hf := pf.ff
                    clear pf HBJ
                    go_wp2_with (at_builtin; refine wpList_append_fits _ rfl _ _ 34 rfl 0 3 j0 1 Try.underlying34 hj0 hy1 FU F.length (j + k) (F.map (Value.int .i64)) (by rfl) (by exact hf.alloc _) ⟨wr.heap.size, 0, none⟩ 1 1 [.int .i64 ((d : Int) + 1)] (by rfl) rfl (by exact cell_one_new _ _ _) (by simp [Value.oneCell']) (by omega) ?_; intro w7 hown7 hgrow7)
                    have P7 := PP.out w7 hown7 hgrow7
                    clear hown7 hgrow7 hf PP
                    go_roundw
                    case rel => first | exact ⟨d + 1, by omega, by go_num, by rw [HS.out]; simp, P7⟩ | ((repeat apply Exists.intro); exact ⟨⟨d + 1, by omega, by go_num, by rw [HS.out]; simp, P7⟩, rfl⟩)
                    case measure => simp [intOf]; omega
                · obtain rfl : d = k := by omega
                  have P3 : Hid (Mm.PF wr w d len3 j qa rn ln ln' q R0 L0 WL DU FU (j + d) (Mm.left rn ln' i d q) F) := pf
                  clear pf
                  go_wp2_with fail
                  refine (cloneU64_own _ rn _ _ (Mm.own_of P3.out.pp.fr0 hrl) (by omega)).mono ?_
                  rintro e w4 ⟨v4, rfl, ho4, hb4⟩
                  obtain ⟨R, hv4, hRb, hR⟩ := ho4.pos (by omega)
                  rw [hrl] at hv4
                  subst hv4
                  go_wp2_with fail
                  refine (cloneU64_own _ ln _ _ (Mm.own_of (P3.out.pp.fl0.below hb4 P3.out.pp.fl0.lt) hll) (by omega)).mono ?_
                  rintro e w5 ⟨v5, rfl, ho5, hb5⟩
                  obtain ⟨L, hv5, hLb, hL⟩ := ho5.pos (by omega)
                  rw [hll] at hv5
                  subst hv5
                  go_wp2_with fail
                  refine (cloneInts_own _ q _ _ ((P3.out.pp.fq0.below hb4 (Nat.le_refl _)).below hb5 (Nat.le_refl _)) (by omega)).mono ?_
                  rintro e w6 ⟨v6, rfl, ho6, hb6⟩
                  obtain ⟨qb, hv6, hq6, hqb⟩ := ho6.form
                  rw [hql] at hv6
                  subst hv6
                  have Z : Hid (Mm.MSt w6 w wr.heap.size d len3 j qb rn ln ln' q F R0 WL FU (j + d) R L) := by
                    have s4 := hb4.size
                    have s5 := hb5.size
                    have s6 := hb6.size
                    have g1 := P3.out.pp.fr0.lt
                    have g2 := P3.out.pp.fwl.lt
                    have g3 := Mm.qis_lt P3.out.drop rfl
                    have g4 := hR.lt
                    have g5 := hL.lt
                    have hw6 : Below wr.heap.size wr w6 := (hb4.trans (hb5.mono s4)).trans (hb6.mono (by omega))
                    refine ⟨P3.out.pp.fr0.below hw6 g1, P3.out.pp.fwl.below hw6 g2, Mm.qis_below P3.out.drop hw6, (hR.below hb5 (by omega)).below hb6 (by omega), hL.below hb6 (by omega), Mm.own_mono ho6 (by omega), ⟨by omega, by omega, by omega, by omega, by omega, by omega, by omega, P3.out.pp.bel.size⟩, P3.out.pp.bel.trans (hw6.mono P3.out.pp.bel.size)⟩
                  clear ho4 ho5 ho6 hb4 hb5 hb6 hRb hR hLb hL hq6 hqb P3
                  go_wp2_with (first | (go_at_call 14; go_in) | (go_at_call 15; go_in))
                  refine (zzHandOn (w6.heap.size + 1) w6.heap.size R L i d len3 (.slice qb j j) rn ln q ln' st c0 c1 c2 c3 c4 gr _ HL (Mm.new_node _ _ _ _ _ _ _ _ _ _ _) (Mm.new_tok _ _ _ _ _) (Mm.blk_alloc2 Z.out.fr _ _) (Mm.blk_alloc2 Z.out.fl _ _) (World.ownsRow.alloc (World.ownsRow.alloc (Z.out.fq.queue (by omega)) _) _) Z.out.lt.2.2.2.2.2.1 hrl hll hi h13 h3 (by omega)).mono ?_
                  rintro e w7 hE
                  rw [← HF.out] at hE
                  have Z7 : Hid (Mm.MEnd w7 w i d len3 rn ln' F R0 WL FU (j + d) R L (w6.heap.size + 1) w6.heap.size c0 c1 c2 c3 c4 gr e) := Mm.mend hE Z.out
                  clear Z hE HL
                  generalize w6.heap.size = T at *
                  clear w6 w5 w4
                  rcases Z7.out.fin with ⟨hF, he, hN, a, cap, hT⟩ | ⟨x, r, M, g, cap, cur, hF, he, hM, hN, hT, hg, hcap⟩
                  · subst he
                    subst hF
                    have cN0 : w7.cell? ⟨T + 1, 0, none⟩ = some (.int .i64 ((i : Int) + 1)) := hN.cell 0
                    have cN1 : w7.cell? ⟨T + 1, 1, none⟩ = some (.slice (some ⟨R, 0, none⟩) d d) := hN.cell 1
                    have cN2 : w7.cell? ⟨T + 1, 2, none⟩ = some (.int .u8 0) := hN.cell 2
                    have sN := hN.lt
                    have HN : Hid (Blk w7 (T + 1) 62 (nd ((i : Int) + 1) (.slice (some ⟨R, 0, none⟩) d d) 0 (.pointer (some ⟨T, 0, none⟩)) c0 c1 c2 c3 c4)) := hN
                    have HT : Hid (Blk w7 T 55 (tk (.slice (some ⟨L, 0, none⟩) len3 len3) (.slice a 0 cap) gr)) := hT
                    clear hN hT
                    go_wp2_with (first | (go_at_call 17; go_in) | (go_at_call 18; go_in) | (go_at_call 20; go_in))
                    refine (equalU64_same R 0 R0 0 d d d rn _ (by omega) (Mm.row_cells (Z7.out.fr.alloc _) hrl) (Mm.row_cells (Z7.out.fr0.alloc _) hrl)).mono ?_
                    rintro e w8 ⟨rfl, q8, rfl⟩
                    clear cN0 cN1 cN2
                    go_wp2_with fail
                    refine (Mm.counts_below (T + 1) _ _ c0 c1 c2 c3 c4 _ _ _ ((HN.out.alloc _).drewN _)).mono ?_
                    rintro e w9 ⟨rfl, hb9⟩
                    have sO : w7.heap.size < w9.heap.size := by have := hb9.size; simp at this; omega
                    have X9 : Hid (Below w7.heap.size w7 w9 ∧ Blk w9 w7.heap.size 45 [.slice none 0 0, .bool false, .int .u64 0]) := by
                      refine ⟨((Below.refl _ _).alloc (Nat.le_refl _) (Obj.cells #[.slice none 0 0, .bool false, .int .u64 0] 45)).trans ⟨hb9.os, hb9.tape, hb9.output, hb9.size, fun k hk => hb9.block k (by simp; omega)⟩, ?_⟩
                      have h1 := Blk.new w7 45 [.slice none 0 0, .bool false, .int .u64 0]
                      unfold Blk
                      rw [hb9.block w7.heap.size (by simp)]
                      exact h1
                    clear hb9
                    have Z9 : Hid (Mm.MEnd w9 w i d len3 rn ln' [] R0 WL FU (j + d) R L (T + 1) T c0 c1 c2 c3 c4 gr _) := Z7.out.later X9.out.1
                    have cO0 : w9.cell? ⟨w7.heap.size, 0, none⟩ = some (.slice none 0 0) := X9.out.2.cell 0
                    have cO1 : w9.cell? ⟨w7.heap.size, 1, none⟩ = some (.bool false) := X9.out.2.cell 1
                    have cO2 : w9.cell? ⟨w7.heap.size, 2, none⟩ = some (.int .u64 0) := X9.out.2.cell 2
                    have hT9 := HT.out.below X9.out.1 HT.out.lt
                    have hN9 := HN.out.below X9.out.1 HN.out.lt
                    have cT0 : w9.cell? ⟨T, 0, none⟩ = some (.slice (some ⟨L, 0, none⟩) len3 len3) := hT9.cell 0
                    have cT1 : w9.cell? ⟨T, 1, none⟩ = some (.slice a 0 cap) := hT9.cell 1
                    have cT2 : w9.cell? ⟨T, 2, none⟩ = some (.int .u64 gr) := hT9.cell 2
                    have cN3 : w9.cell? ⟨T + 1, 3, none⟩ = some (.pointer (some ⟨T, 0, none⟩)) := hN9.cell 3
                    have sT9 := hT9.lt
                    have sN9 := hN9.lt
                    clear hT9 hN9 Z7 X9 HN HT
                    go_wp2_with fail
                    refine (equalU64_same L 0 WL 0 len3 len3 len3 ln' _ (by omega) (Mm.row_cells (Z9.out.fl.alloc _) hll') (Mm.row_cells (Z9.out.fwl.alloc _) hll')).mono ?_
                    rintro e w10 ⟨rfl, q10, rfl⟩
                    have qp := Mm.neq_tok
                    have hbel := (Z9.out.bel.alloc Z9.out.bel.size (Obj.cells #[.int .u64 c0, .int .u64 c1, .int .u64 c2, .int .u64 c3, .int .u64 c4] 52))
                    clear Z9
                    go_wp2_with (go_at_call 15; go_in)
                    go_ret
                    exact ⟨rfl, ⟨hbel.os, hbel.tape, hbel.output, hbel.size, hbel.block⟩⟩
                  · subst he
                    subst hF
                    have cN0 : w7.cell? ⟨T + 1, 0, none⟩ = some (.int .i64 ((i : Int) + 1)) := hN.cell 0
                    have cN1 : w7.cell? ⟨T + 1, 1, none⟩ = some (.slice (some ⟨R, 0, none⟩) d d) := hN.cell 1
                    have cN2 : w7.cell? ⟨T + 1, 2, none⟩ = some (.int .u8 0) := hN.cell 2
                    have sN := hN.lt
                    have HN : Hid (Blk w7 (T + 1) 62 (nd ((i : Int) + 1) (.slice (some ⟨R, 0, none⟩) d d) 0 (.pointer none) c0 c1 (IntKind.u64.wrap (c2 + 1)) c3 c4)) := hN
                    have HT : Hid (Blk w7 T 55 (tk (.slice (some ⟨L, 0, none⟩) len3 len3) (.slice (some ⟨g, 0, none⟩) r.length cap) gr)) := hT
                    have HM : Hid (Blk w7 M 57 [.int .u8 2, .int .i64 ((i : Int) + 1), .int .i64 x, .int .u64 0, .pointer (some ⟨T, 0, none⟩)]) := hM
                    have HGB : Hid (Blk w7 g 3 (r.map (.int .i64) ++ cur)) := hg
                    have hrl8 : r.length ≤ 8192 := by rw [List.length_cons] at hFl; omega
                    clear hN hT hM hg
                    go_wp2_with (first | (go_at_call 17; go_in) | (go_at_call 18; go_in) | (go_at_call 20; go_in))
                    refine (equalU64_same R 0 R0 0 d d d rn _ (by omega) (Mm.row_cells (Z7.out.fr.alloc _) hrl) (Mm.row_cells (Z7.out.fr0.alloc _) hrl)).mono ?_
                    rintro e w8 ⟨rfl, q8, rfl⟩
                    clear cN0 cN1 cN2
                    go_wp2_with fail
                    refine (Mm.counts_below (T + 1) _ _ c0 c1 (IntKind.u64.wrap (c2 + 1)) c3 c4 _ _ _ ((HN.out.alloc _).drewN _)).mono ?_
                    rintro e w9 ⟨rfl, hb9⟩
                    have sO : w7.heap.size < w9.heap.size := by have := hb9.size; simp at this; omega
                    have X9 : Hid (Below w7.heap.size w7 w9 ∧ Blk w9 w7.heap.size 45 [.slice (some ⟨M, 0, none⟩) 1 1, .bool false, .int .u64 0]) := by
                      refine ⟨((Below.refl _ _).alloc (Nat.le_refl _) (Obj.cells #[.slice (some ⟨M, 0, none⟩) 1 1, .bool false, .int .u64 0] 45)).trans ⟨hb9.os, hb9.tape, hb9.output, hb9.size, fun k hk => hb9.block k (by simp; omega)⟩, ?_⟩
                      have h1 := Blk.new w7 45 [.slice (some ⟨M, 0, none⟩) 1 1, .bool false, .int .u64 0]
                      unfold Blk
                      rw [hb9.block w7.heap.size (by simp)]
                      exact h1
                    clear hb9
                    have Z9 : Hid (Mm.MEnd w9 w i d len3 rn ln' (x :: r) R0 WL FU (j + d) R L (T + 1) T c0 c1 c2 c3 c4 gr _) := Z7.out.later X9.out.1
                    have cO0 : w9.cell? ⟨w7.heap.size, 0, none⟩ = some (.slice (some ⟨M, 0, none⟩) 1 1) := X9.out.2.cell 0
                    have cO1 : w9.cell? ⟨w7.heap.size, 1, none⟩ = some (.bool false) := X9.out.2.cell 1
                    have cO2 : w9.cell? ⟨w7.heap.size, 2, none⟩ = some (.int .u64 0) := X9.out.2.cell 2
                    have hT9 := HT.out.below X9.out.1 HT.out.lt
                    have hN9 := HN.out.below X9.out.1 HN.out.lt
                    have hM9 := HM.out.below X9.out.1 HM.out.lt
                    have HG9 : Hid (Blk w9 g 3 (r.map (.int .i64) ++ cur)) := HGB.out.below X9.out.1 HGB.out.lt
                    have cT0 : w9.cell? ⟨T, 0, none⟩ = some (.slice (some ⟨L, 0, none⟩) len3 len3) := hT9.cell 0
                    have cT1 : w9.cell? ⟨T, 1, none⟩ = some (.slice (some ⟨g, 0, none⟩) r.length cap) := hT9.cell 1
                    have cT2 : w9.cell? ⟨T, 2, none⟩ = some (.int .u64 gr) := hT9.cell 2
                    have cN3 : w9.cell? ⟨T + 1, 3, none⟩ = some (.pointer none) := hN9.cell 3
                    have cM0 : w9.cell? ⟨M, 0, none⟩ = some (.int .u8 2) := hM9.cell 0
                    have cM1 : w9.cell? ⟨M, 1, none⟩ = some (.int .i64 ((i : Int) + 1)) := hM9.cell 1
                    have cM2 : w9.cell? ⟨M, 2, none⟩ = some (.int .i64 x) := hM9.cell 2
                    have cM3 : w9.cell? ⟨M, 3, none⟩ = some (.int .u64 0) := hM9.cell 3
                    have cM4 : w9.cell? ⟨M, 4, none⟩ = some (.pointer (some ⟨T, 0, none⟩)) := hM9.cell 4
                    obtain ⟨cF0, hcF, hCAP⟩ := Mm.full_cells Z9.out.ffu
                    obtain ⟨cur', hFB⟩ := hcF
                    have HFB : Hid (Blk w9 FU 3 ((x :: r).map (.int .i64) ++ cur')) := hFB
                    have sF9 : FU < w9.heap.size := World.block_lt_of_cell? _ _ cF0
                    have sT9 := hT9.lt
                    have sN9 := hN9.lt
                    have sM9 := hM9.lt
                    have sG9 := HG9.out.lt
                    clear hT9 hN9 hM9 Z7 X9 HN HT HM HGB hFB
                    go_wp2_with fail
                    refine (equalU64_same L 0 WL 0 len3 len3 len3 ln' _ (by omega) (Mm.row_cells (Z9.out.fl.alloc _) hll') (Mm.row_cells (Z9.out.fwl.alloc _) hll')).mono ?_
                    rintro e w10 ⟨rfl, q10, rfl⟩
                    have qp := Mm.neq_tok
                    have hbel := Z9.out.bel
                    clear Z9
                    go_wp2_with (go_at_call 15; go_in)
                    go_quiet (fail)
                    go_wp2_with (go_at_call 15; go_in)
                    have hbelF : ∀ (q1 q2 q3 : Nat) (o1 o2 : Obj), Below w.heap.size w (((((w9.alloc o1).drewN q1).alloc o2).drewN q2).drewN q3) := fun q1 q2 q3 o1 o2 => by
                      have h1 := (hbel.alloc hbel.size o1).alloc (by have := hbel.size; simp; omega) o2
                      exact ⟨h1.os, h1.tape, h1.output, h1.size, h1.block⟩
                    clear hbel qp cM0 cM1 cM2 cM3 cM4 cO0 cO1 cO2 cT0 cT2 cN3 cF0
                    by_cases hr0 : r.length = 0
                    · have hr1 : r = [] := List.eq_nil_of_length_eq_zero hr0
                      subst hr1
                      clear hr0
                      rw [List.length_nil] at cT1
                      by_cases hCAP2 : j + d = 1
                      · go_quiet ((go_at_call 22; exact Mm.quiet_of2 (equalInts_zero _ _ _ _ _)))
                        go_wp2
                        go_ret
                        exact ⟨rfl, hbelF _ _ _ _ _⟩
                      · go_quiet ((go_at_call 22; exact Mm.quiet_of2 (equalInts_zero _ _ _ _ _)))
                        go_wp2
                        go_ret
                        exact ⟨rfl, hbelF _ _ _ _ _⟩
                    · have hCAP2 : ¬ j + d = 1 := by omega
                      have hi1 : (1 : Int) ≤ (r.length : Int) + 1 := by omega
                      have hi2 : (r.length : Int) + 1 ≤ (j : Int) + (d : Int) := by omega
                      go_quiet ((go_at_call 22; exact Mm.quiet_of2 (equalInts_same g 0 FU 1 r.length _ _ r _ hrl8 (Mm.queue_cells ((((HG9.out.alloc _).drewN _).alloc _).drewN _)) (Mm.full_at ((((HFB.out.alloc _).drewN _).alloc _).drewN _)))))
                      go_wp2
                      go_ret
                      exact ⟨rfl, hbelF _ _ _ _ _⟩
end Go.Proofs.Qxb6602866a

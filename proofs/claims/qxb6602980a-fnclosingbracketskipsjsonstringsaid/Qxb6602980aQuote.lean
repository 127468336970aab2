/-
  jsonQuote (function 11): its contract; FnClosingBracketSkipsJSONString (4): its plain law and its walk.
-/
import Derived.Test.Qxb6602980aPrefix
import Derived.Laws.BytesArg
namespace Go.Proofs.Qxb6602980a
open Go.RowKit
set_option linter.unusedSimpArgs false
set_option linter.unusedVariables false

/-- A backslash ahead of each quote and backslash. -/
def esc : List UInt8 → List UInt8
  | [] => []
  | c :: cs => if c.toNat = 34 ∨ c.toNat = 92 then 92 :: c :: esc cs else c :: esc cs
theorem esc_append (a b : List UInt8) : esc (a ++ b) = esc a ++ esc b := by
  induction a with
  | nil => rfl
  | cons c cs ih =>
    rw [List.cons_append, esc, esc, ih]
    split <;> simp
theorem esc_len (a : List UInt8) : (esc a).length ≤ 2 * a.length := by
  induction a with
  | nil => simp [esc]
  | cons c cs ih =>
    rw [esc]
    split <;> simp <;> omega
/-- Inside a string, the escaped text and its closing quote bring the search outside, behind them. -/
theorem scan_esc (a t : List UInt8) : ∀ k : Nat, scan 1 (esc a ++ 34 :: t) k = scan 0 t (k + (esc a).length + 1) := by
  induction a with
  | nil => intro k; rw [esc, List.nil_append, scan_1, if_neg (by decide), if_pos (by decide)]; simp
  | cons c cs ih =>
    intro k
    rw [esc]
    split
    · rename_i h
      rw [List.cons_append, List.cons_append, scan_1, if_pos (by decide), scan_2, ih (k + 1 + 1)]
      simp only [List.length_cons]
      congr 1; omega
    · rename_i h
      have h1 : ¬ c.toNat = 34 := fun e => h (Or.inl e)
      have h2 : ¬ c.toNat = 92 := fun e => h (Or.inr e)
      rw [List.cons_append, scan_1, if_neg h2, if_neg h1, ih (k + 1)]
      simp only [List.length_cons]
      congr 1; omega

/-- Bytes as numbers. -/
def nums (l : List UInt8) : List Int := l.map fun u => (u.toNat : Int)
theorem nums_len (l : List UInt8) : (nums l).length = l.length := by simp [nums]
theorem bs_nums (l : List UInt8) : bs (strOfNums (nums l)) = l := by
  unfold bs
  rw [strOfNums_data, nums, List.map_map]
  conv => rhs; rw [← List.map_id l]
  apply List.map_congr_left
  intro u _
  simp
theorem nums_append (a b : List UInt8) : nums (a ++ b) = nums a ++ nums b := by simp [nums]

theorem info5 : (Try.prog.info? 5).map (fun i => (i.zero, i.size, i.bytes)) = some (some (.int .u8 0), 1, 1) := by kernel_rfl
theorem bs_take_snoc (s : ByteArray) (k : Nat) (h : k < s.size) : (bs s).take (k + 1) = (bs s).take k ++ [s[k]] := by
  rw [List.take_succ_eq_append_getElem (show k < (bs s).length from h)]; rfl

/-- What is built so far lies in the block G, which is the call's own. -/
def Built (w wr : World) (G CAP : Nat) (E : List Int) : Prop := wr.ownsRow 0 5 1 (.slice (some ⟨G, 0, none⟩) E.length CAP) E.length (E.map (Value.int .u8)) ∧ Below w.heap.size w wr ∧ w.heap.size ≤ G

theorem Built.push {w wr w1 : World} {G CAP : Nat} {E : List Int} {x : Int} {o : Obj} (h : Built w wr G CAP E) (hown : w1.ownsRow 0 5 1 (.slice (some ⟨G, 0, none⟩) (E.length + 1) CAP) (E.length + 1) (E.map (Value.int .u8) ++ [.int .u8 x])) (hg : (wr.alloc o).grownBy w1 (some G)) : Built w w1 G CAP (E ++ [x]) := by
  refine ⟨?_, (h.2.1.alloc h.2.1.size o).grown hg (by have := h.2.1.size; simp; omega) (by intro k e; simp at e; have := h.2.2; omega), h.2.2⟩
  have e : (E ++ [x]).length = E.length + 1 := by simp
  rw [e]; simpa using hown

theorem row_at {w : World} {G CAP : Nat} {E : List Int} {x : Int} (h : w.ownsRow 0 5 1 (.slice (some ⟨G, 0, none⟩) (E.length + 1) CAP) (E.length + 1) (E.map (Value.int .u8) ++ [.int .u8 x])) : ∀ i, i < E.length + 1 → w.cell? ⟨G, 0 + i, none⟩ = some (.int .u8 ((E ++ [x]).getD i 0)) := by
  intro i hi
  rw [Nat.zero_add, h.cellAt i (by omega)]
  have e : E.map (Value.int .u8) ++ [.int .u8 x] = (E ++ [x]).map (Value.int .u8) := by simp
  rw [e, List.getElem?_map, List.getElem?_eq_getElem (show i < (E ++ [x]).length by simp; omega), List.getD_eq_getElem?_getD, List.getElem?_eq_getElem (show i < (E ++ [x]).length by simp; omega)]
  rfl

set_option maxHeartbeats 2000000 in
theorem jq11 (s : ByteArray) (w : World) (hs : s.size ≤ 262144) : Calls Try.prog 11 #[.string s] w fun e w' => ∃ q : ByteArray, e = .returned (.string q) ∧ bs q = 34 :: esc (bs s) ++ [34] ∧ Below w.heap.size w w' := by
  obtain ⟨i0, hi, hz0, hz1, hz2⟩ := info_parts info5
  go_enter Try.func11, Try.ntmps11
  go_wp2_with (first | (at_make; refine wpList_make_own _ rfl _ _ 43 rfl 0 5 i0 (.int .u8 0) 1 Try.underlying43 hi hz0 hz1 .i64 .i64 _ (2 * s.size + 2) rfl rfl (by omega) (by rw [hz2]; omega) (by unfold maxLen; omega) (Nat.zero_le _) ?_; intro w1 hown1 hgrow1) | (at_builtin; refine wpList_append_fits _ rfl (.tmp 11) (.tmp 12) 43 rfl 0 5 i0 1 Try.underlying43 hi hz1 w.heap.size 0 (2 * s.size + 2) [] (by rfl) (by exact hown1.alloc _) ⟨w1.heap.size, 0, none⟩ 1 1 [.int .u8 34] (by rfl) rfl (by exact cell_one_new _ _ _) (by simp [Value.oneCell']) (by omega) ?_; intro w2 hown2 hgrow2))
  have B0 : Hid (Built w w2 w.heap.size (2 * s.size + 2) (nums (34 :: esc ((bs s).take 0)))) := by
    have b1 : Built w w1 w.heap.size (2 * s.size + 2) [] := ⟨hown1, (Below.refl _ _).grown hgrow1 (Nat.le_refl _) (by simp), Nat.le_refl _⟩
    exact b1.push (x := 34) hown2 hgrow2
  clear hown1 hgrow1 hown2 hgrow2
  go_loopw [3, 4] (fun v t wr => ∃ k : Nat, k ≤ s.size ∧ t = .int .i64 k ∧ v = .slice (some ⟨w.heap.size, 0, none⟩) (nums (34 :: esc ((bs s).take k))).length (2 * s.size + 2) ∧ Built w wr w.heap.size (2 * s.size + 2) (nums (34 :: esc ((bs s).take k)))) (fun _ t _ => s.size - (intOf t).toNat)
  case atStart => exact ⟨0, Nat.zero_le _, rfl, rfl, B0.out⟩
  case round =>
    clear B0
    obtain ⟨k, hk, rfl, rfl, bt⟩ := hrel
    obtain ⟨E, HE⟩ : ∃ E, Hid (E = nums (34 :: esc ((bs s).take k))) := ⟨_, rfl⟩
    have hEl : E.length ≤ 2 * k + 1 := by
      rw [HE.out, nums_len, List.length_cons]
      have h1 := esc_len ((bs s).take k)
      have h2 : ((bs s).take k).length ≤ k := List.length_take_le _ _
      omega
    rw [← HE.out] at bt ⊢
    have hf := bt.1
    have BT : Hid (Built w wr w.heap.size (2 * s.size + 2) E) := bt
    clear bt
    by_cases hlt : k < s.size
    · by_cases h1 : s[k].toNat = 34 ∨ s[k].toNat = 92
      · have HS : Hid (nums (34 :: esc ((bs s).take (k + 1))) = (E ++ [92]) ++ [(s[k].toNat : Int)]) := by
          show _ = _
          rw [bs_take_snoc s k hlt, esc_append, HE.out, esc, if_pos h1]
          simp [nums, esc]
        by_cases h2 : s[k].toNat = 34
        · have g34 : ((s[k].toNat : Int) == 34) = true := by simp; omega
          clear h1 h2
          go_wp2_with (first | (at_builtin; refine wpList_append_fits _ rfl (.tmp 29) (.tmp 30) 43 rfl 0 5 i0 1 Try.underlying43 hi hz1 w.heap.size E.length (2 * s.size + 2) (E.map (Value.int .u8)) (by rfl) (by exact hf.alloc _) ⟨wr.heap.size, 0, none⟩ 1 1 [.int .u8 92] (by rfl) rfl (by exact cell_one_new _ _ _) (by simp [Value.oneCell']) (by omega) ?_; intro w2 hown2 hgrow2) | (at_builtin; refine wpList_append_fits _ rfl (.tmp 32) (.tmp 34) 43 rfl 0 5 i0 1 Try.underlying43 hi hz1 w.heap.size (E.length + 1) (2 * s.size + 2) (E.map (Value.int .u8) ++ [.int .u8 92]) (by rfl) (by exact hown2.alloc _) ⟨w2.heap.size, 0, none⟩ 1 1 [.int .u8 (s[k].toNat : Int)] (by rfl) rfl (by exact cell_one_new _ _ _) (by simp [Value.oneCell']) (by omega) ?_; intro w3 hown3 hgrow3))
          have b3 := (BT.out.push hown2 hgrow2).push (x := (s[k].toNat : Int)) (by simpa using hown3) hgrow3
          clear hown2 hgrow2 hown3 hgrow3 hf
          go_roundw
          case rel => first | exact ⟨k + 1, by omega, by go_num, by rw [HS.out]; simp, by rw [HS.out]; exact b3⟩ | ((repeat apply Exists.intro); exact ⟨⟨k + 1, by omega, by go_num, by rw [HS.out]; simp, by rw [HS.out]; exact b3⟩, rfl⟩)
          case measure => simp [intOf]; omega
        · have g34 : ((s[k].toNat : Int) == 34) = false := by simp; omega
          have g92 : ((s[k].toNat : Int) == 92) = true := by simp; omega
          clear h1
          go_wp2_with (first | (at_builtin; refine wpList_append_fits _ rfl (.tmp 29) (.tmp 30) 43 rfl 0 5 i0 1 Try.underlying43 hi hz1 w.heap.size E.length (2 * s.size + 2) (E.map (Value.int .u8)) (by rfl) (by exact hf.alloc _) ⟨wr.heap.size, 0, none⟩ 1 1 [.int .u8 92] (by rfl) rfl (by exact cell_one_new _ _ _) (by simp [Value.oneCell']) (by omega) ?_; intro w2 hown2 hgrow2) | (at_builtin; refine wpList_append_fits _ rfl (.tmp 32) (.tmp 34) 43 rfl 0 5 i0 1 Try.underlying43 hi hz1 w.heap.size (E.length + 1) (2 * s.size + 2) (E.map (Value.int .u8) ++ [.int .u8 92]) (by rfl) (by exact hown2.alloc _) ⟨w2.heap.size, 0, none⟩ 1 1 [.int .u8 (s[k].toNat : Int)] (by rfl) rfl (by exact cell_one_new _ _ _) (by simp [Value.oneCell']) (by omega) ?_; intro w3 hown3 hgrow3))
          have b3 := (BT.out.push hown2 hgrow2).push (x := (s[k].toNat : Int)) (by simpa using hown3) hgrow3
          clear hown2 hgrow2 hown3 hgrow3 hf
          go_roundw
          case rel => first | exact ⟨k + 1, by omega, by go_num, by rw [HS.out]; simp, by rw [HS.out]; exact b3⟩ | ((repeat apply Exists.intro); exact ⟨⟨k + 1, by omega, by go_num, by rw [HS.out]; simp, by rw [HS.out]; exact b3⟩, rfl⟩)
          case measure => simp [intOf]; omega
      · have HS : Hid (nums (34 :: esc ((bs s).take (k + 1))) = E ++ [(s[k].toNat : Int)]) := by
          show _ = _
          rw [bs_take_snoc s k hlt, esc_append, HE.out, esc, if_neg h1]
          simp [nums, esc]
        have g34 : ((s[k].toNat : Int) == 34) = false := by simp; omega
        have g92 : ((s[k].toNat : Int) == 92) = false := by simp; omega
        go_wp2_with (at_builtin; refine wpList_append_fits _ rfl (.tmp 32) (.tmp 34) 43 rfl 0 5 i0 1 Try.underlying43 hi hz1 w.heap.size E.length (2 * s.size + 2) (E.map (Value.int .u8)) (by rfl) (by exact hf.alloc _) ⟨wr.heap.size, 0, none⟩ 1 1 [.int .u8 (s[k].toNat : Int)] (by rfl) rfl (by exact cell_one_new _ _ _) (by simp [Value.oneCell']) (by omega) ?_; intro w2 hown2 hgrow2)
        have b2 := BT.out.push hown2 hgrow2
        clear hown2 hgrow2 hf
        go_roundw
        case rel => first | exact ⟨k + 1, by omega, by go_num, by rw [HS.out]; simp, by rw [HS.out]; exact b2⟩ | ((repeat apply Exists.intro); exact ⟨⟨k + 1, by omega, by go_num, by rw [HS.out]; simp, by rw [HS.out]; exact b2⟩, rfl⟩)
        case measure => simp [intOf]; omega
    · obtain rfl : k = s.size := by omega
      have HF : Hid (E ++ [34] = nums (34 :: esc (bs s) ++ [34])) := by
        show _ = _
        rw [HE.out, List.take_of_length_le (by rw [bs_len]; omega), nums_append]
        rfl
      go_wp2_with (at_builtin; refine wpList_append_fits _ rfl (.tmp 36) (.tmp 37) 43 rfl 0 5 i0 1 Try.underlying43 hi hz1 w.heap.size E.length (2 * s.size + 2) (E.map (Value.int .u8)) (by rfl) (by exact hf.alloc _) ⟨wr.heap.size, 0, none⟩ 1 1 [.int .u8 34] (by rfl) rfl (by exact cell_one_new _ _ _) (by simp [Value.oneCell']) (by omega) ?_; intro w2 hown2 hgrow2; have hcv := run_convert_bytes_arg (P := Try.prog) w2 43 5 Try.underlying43 Try.underlying5 w.heap.size 0 (E.length + 1) (2 * s.size + 2) (E ++ [34]) (by simp) (row_at hown2) 9 Try.underlying9)
      have b2 := BT.out.push hown2 hgrow2
      go_ret
      exact ⟨_, rfl, by rw [HF.out, bs_nums]; rfl, b2.2.1⟩

/-- The law's plain half: behind the quoted text the search stands outside, and goes on in t. -/
theorem skip_law {q t : ByteArray} {l : List UInt8} (hq : bs q = 34 :: esc l ++ [34]) : cb (q ++ t) = if cb t = -1 then -1 else cb t + q.size := by
  have hl : q.size = (esc l).length + 2 := by rw [← bs_len, hq]; simp
  unfold cb
  rw [bs_append, hq, List.append_assoc, List.cons_append, scan_0, if_pos (by decide)]
  show scan 1 (esc l ++ 34 :: bs t) 1 = _
  rw [scan_esc, ← scan_shift (bs t) 0 (by omega) 0 q.size]
  congr 1; omega

set_option maxHeartbeats 1000000 in
theorem skip_none (s t : ByteArray) (w : World) (hs : s.size ≤ 262144) (ht : t.size ≤ 524288) (h : cb t = -1) :
    Calls Try.prog 4 #[.string s, .string t] w fun e w' => e = .returned (.bool true) ∧ Below w.heap.size w w' := by
  have HT : Hid (cb t = -1) := h
  clear h
  go_enter Try.func4, Try.ntmps4
  go_wp2_with (go_at_call 10; go_in)
  refine (jq11 s _ hs).mono ?_
  rintro e w1 ⟨q, rfl, hq, hb⟩
  have hqs : q.size ≤ 524290 := by rw [← bs_len, hq]; have := esc_len (bs s); rw [bs_len] at this; simp; omega
  have hsz : (q ++ t).size ≤ 4194304 := by rw [ByteArray.size_append]; omega
  have HR : Hid (cb (q ++ t) = -1) := by
    have := skip_law (t := t) hq
    rw [if_pos HT.out] at this
    exact this
  clear hq
  go_wp2_with fail
  refine (cb8v t _ _ (by omega) HT.out).mono ?_
  rintro e w' ⟨rfl, rfl⟩
  go_wp2_with fail
  refine (cb8v (q ++ t) _ _ hsz HR.out).mono ?_
  rintro e w' ⟨rfl, rfl⟩
  go_wp2
  go_ret
  exact ⟨rfl, hb⟩

set_option maxHeartbeats 1000000 in
theorem skip_some (s t : ByteArray) (m : Nat) (w : World) (hs : s.size ≤ 262144) (ht : t.size ≤ 524288) (hm : m < t.size) (h : cb t = (m : Int)) :
    Calls Try.prog 4 #[.string s, .string t] w fun e w' => e = .returned (.bool true) ∧ Below w.heap.size w w' := by
  have HT : Hid (cb t = (m : Int)) := h
  clear h
  go_enter Try.func4, Try.ntmps4
  go_wp2_with (go_at_call 10; go_in)
  refine (jq11 s _ hs).mono ?_
  rintro e w1 ⟨q, rfl, hq, hb⟩
  have hqs : q.size ≤ 524290 := by rw [← bs_len, hq]; have := esc_len (bs s); rw [bs_len] at this; simp; omega
  have hsz : (q ++ t).size ≤ 4194304 := by rw [ByteArray.size_append]; omega
  have HR : Hid (cb (q ++ t) = (q.size : Int) + (m : Int)) := by
    have := skip_law (t := t) hq
    rw [HT.out, if_neg (by omega)] at this
    show _ = _
    omega
  clear hq
  go_wp2_with fail
  refine (cb8v t _ _ (by omega) HT.out).mono ?_
  rintro e w' ⟨rfl, rfl⟩
  go_wp2_with fail
  refine (cb8v (q ++ t) _ _ hsz HR.out).mono ?_
  rintro e w' ⟨rfl, rfl⟩
  go_wp2
  go_ret
  exact ⟨by simp, hb⟩

set_option maxHeartbeats 1000000 in
theorem skip_long (s t : ByteArray) (w : World) (hs : s.size ≤ maxLen) (ht : t.size ≤ maxLen) (h : 262144 < s.size ∨ 524288 < t.size) :
    Calls Try.prog 4 #[.string s, .string t] w fun e w' => e = .returned (.bool true) ∧ w' = w := by
  unfold maxLen at hs ht
  rcases h with h | h
  all_goals
    go_enter Try.func4, Try.ntmps4
    go_wp2_with (go_at_call 10; go_in)
    all_goals (go_ret; exact ⟨rfl, rfl⟩)

theorem skip_all (s t : ByteArray) (w : World) (hs : s.size ≤ maxLen) (ht : t.size ≤ maxLen) :
    Calls Try.prog 4 #[.string s, .string t] w fun e w' => e = .returned (.bool true) ∧ Below w.heap.size w w' := by
  by_cases h : 262144 < s.size ∨ 524288 < t.size
  · exact (skip_long s t w hs ht h).mono fun e w' ⟨he, hw⟩ => ⟨he, hw ▸ Below.refl _ _⟩
  · rcases cb_range t with h1 | ⟨m, hm, h1, _⟩
    · exact skip_none s t w (by omega) (by omega) h1
    · exact skip_some s t m w (by omega) (by omega) hm h1
end Go.Proofs.Qxb6602980a

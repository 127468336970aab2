/-
  FnClosingBracketDecidedByPrefix (function 5): its plain law and its walk.
-/
import Derived.Test.Qxb6602980aCb
namespace Go.Proofs.Qxb6602980a
open Go.RowKit
set_option linter.unusedSimpArgs false
set_option linter.unusedVariables false

theorem bs_append (a b : ByteArray) : bs (a ++ b) = bs a ++ bs b := by
  unfold bs; rw [ByteArray.data_append]; simp
theorem bs_take (a : ByteArray) (m : Nat) : bs (a.extract 0 m) = (bs a).take m := by
  unfold bs; rw [ByteArray.data_extract]; simp

/-- An answer in the first text: it stands whatever follows; and no bracket stands ahead of it. -/
theorem pre_some {a b : ByteArray} {m : Nat} (h : cb a = (m : Int)) : cb (a ++ b) = (m : Int) ∧ cb (a.extract 0 m) = -1 := by
  constructor
  · unfold cb at h ⊢
    rw [bs_append, scan_append _ _ 0 (by omega) 0 (by rw [h]; omega), h]
  · unfold cb at h ⊢
    rw [bs_take]
    exact scan_take _ 0 (by omega) 0 m (by rw [h]; simp)
/-- None in the first text: none in both, or one in the second. -/
theorem pre_none {a b : ByteArray} (h : cb a = -1) : cb (a ++ b) = -1 ∨ ∃ m, ∃ hm : m < (a ++ b).size, a.size ≤ m ∧ cb (a ++ b) = (m : Int) ∧ (a ++ b)[m].toNat = 93 := by
  rcases cb_range (a ++ b) with h1 | ⟨m, hm, h1, h2⟩
  · exact Or.inl h1
  · refine Or.inr ⟨m, hm, ?_, h1, h2⟩
    obtain ⟨st', hs', h3⟩ := scan_append_none (bs a) (bs b) 0 (by omega) 0 h
    have h4 : cb (a ++ b) = scan st' (bs b) (0 + (bs a).length) := by unfold cb; rw [bs_append, h3]
    rcases scan_range (bs b) st' hs' (0 + (bs a).length) with h5 | ⟨m', hm', h5, _⟩
    · rw [h4, h5] at h1; omega
    · rw [h4, h5, bs_len] at h1; omega

theorem cb8v (s : ByteArray) (v : Int) (w : World) (hs : s.size ≤ 4194304) (h : cb s = v) : Calls Try.prog 8 #[.string s] w fun e w' => e = .returned (.int .i64 v) ∧ w' = w := by
  rw [← h]; exact cb8 s w hs

set_option maxHeartbeats 1000000 in
theorem pf_none (a b : ByteArray) (w : World) (ha : a.size ≤ 524288) (hb : b.size ≤ 524288) (h : cb a = -1) (h' : cb (a ++ b) = -1) :
    Calls Try.prog 5 #[.string a, .string b] w fun e w' => e = .returned (.bool true) ∧ w' = w := by
  have HA : Hid (cb a = -1) := h
  have HB : Hid (cb (a ++ b) = -1) := h'
  have hsz : (a ++ b).size ≤ 4194304 := by rw [ByteArray.size_append]; omega
  clear h h'
  go_enter Try.func5, Try.ntmps5
  go_wp2_with (go_at_call 12; go_in)
  refine (cb8v a _ _ (by omega) HA.out).mono ?_
  rintro e w' ⟨rfl, rfl⟩
  go_wp2_with fail
  refine (cb8v (a ++ b) _ _ hsz HB.out).mono ?_
  rintro e w' ⟨rfl, rfl⟩
  go_wp2
  go_ret
  exact ⟨rfl, rfl⟩

set_option maxHeartbeats 1000000 in
theorem pf_later (a b : ByteArray) (m : Nat) (w : World) (ha : a.size ≤ 524288) (hb : b.size ≤ 524288) (h : cb a = -1) (hm : m < (a ++ b).size) (hm' : a.size ≤ m) (h' : cb (a ++ b) = (m : Int)) (h93 : (a ++ b)[m].toNat = 93) :
    Calls Try.prog 5 #[.string a, .string b] w fun e w' => e = .returned (.bool true) ∧ w' = w := by
  have HA : Hid (cb a = -1) := h
  have HB : Hid (cb (a ++ b) = (m : Int)) := h'
  have hsz : (a ++ b).size ≤ 4194304 := by rw [ByteArray.size_append]; omega
  have hm2 : m < a.size + b.size := by rw [ByteArray.size_append] at hm; exact hm
  clear h h'
  go_enter Try.func5, Try.ntmps5
  go_wp2_with (go_at_call 12; go_in)
  refine (cb8v a _ _ (by omega) HA.out).mono ?_
  rintro e w' ⟨rfl, rfl⟩
  go_wp2_with fail
  refine (cb8v (a ++ b) _ _ hsz HB.out).mono ?_
  rintro e w' ⟨rfl, rfl⟩
  go_wp2
  go_ret
  exact ⟨rfl, rfl⟩

set_option maxHeartbeats 1000000 in
theorem pf_some (a b : ByteArray) (m : Nat) (w : World) (ha : a.size ≤ 524288) (hb : b.size ≤ 524288) (hm : m < a.size) (h : cb a = (m : Int)) (h93 : a[m].toNat = 93) :
    Calls Try.prog 5 #[.string a, .string b] w fun e w' => e = .returned (.bool true) ∧ w' = w := by
  have HA : Hid (cb a = (m : Int)) := h
  have HB : Hid (cb (a ++ b) = (m : Int)) := (pre_some h).1
  have HC : Hid (cb (a.extract 0 m) = -1) := (pre_some (b := b) h).2
  have hsz : (a ++ b).size ≤ 4194304 := by rw [ByteArray.size_append]; omega
  have hsz2 : (a.extract 0 m).size ≤ 4194304 := by rw [ByteArray.size_extract]; omega
  clear h
  go_enter Try.func5, Try.ntmps5
  go_wp2_with (go_at_call 12; go_in)
  refine (cb8v a _ _ (by omega) HA.out).mono ?_
  rintro e w' ⟨rfl, rfl⟩
  go_wp2_with fail
  refine (cb8v (a ++ b) _ _ hsz HB.out).mono ?_
  rintro e w' ⟨rfl, rfl⟩
  go_wp2_with fail
  refine (cb8v (a.extract 0 m) _ _ hsz2 HC.out).mono ?_
  rintro e w' ⟨rfl, rfl⟩
  go_wp2
  go_ret
  exact ⟨rfl, rfl⟩

set_option maxHeartbeats 1000000 in
theorem pf_long (a b : ByteArray) (w : World) (ha : a.size ≤ maxLen) (hb : b.size ≤ maxLen) (h : 524288 < a.size ∨ 524288 < b.size) :
    Calls Try.prog 5 #[.string a, .string b] w fun e w' => e = .returned (.bool true) ∧ w' = w := by
  unfold maxLen at ha hb
  rcases h with h | h
  all_goals
    go_enter Try.func5, Try.ntmps5
    go_wp2_with (go_at_call 12; go_in)
    all_goals (go_ret; exact ⟨rfl, rfl⟩)

theorem pf_all (a b : ByteArray) (w : World) (ha : a.size ≤ maxLen) (hb : b.size ≤ maxLen) :
    Calls Try.prog 5 #[.string a, .string b] w fun e w' => e = .returned (.bool true) ∧ w' = w := by
  by_cases h : 524288 < a.size ∨ 524288 < b.size
  · exact pf_long a b w ha hb h
  · rcases cb_range a with h1 | ⟨m, hm, h1, h2⟩
    · rcases pre_none (b := b) h1 with h3 | ⟨m, hm, hm', h3, h4⟩
      · exact pf_none a b w (by omega) (by omega) h1 h3
      · exact pf_later a b m w (by omega) (by omega) h1 hm hm' h3 h4
    · exact pf_some a b m w (by omega) (by omega) hm h1 h2
end Go.Proofs.Qxb6602980a

/-
  The contracts of closingBracket (function 16) and ZZclosingBracket (8).
-/
import Derived.Test.Qxb6602980aProg
import Derived.Test.Qxb6602980aPlain
import Derived.WalkSpells
namespace Go.Proofs.Qxb6602980a
open Go.RowKit
set_option linter.unusedSimpArgs false
set_option linter.unusedVariables false

theorem ret_int {k : IntKind} {a b : Int} (h : a = b) : Ending.returned (.int k a) = .returned (.int k b) := by rw [h]

theorem is_t {n : Nat} {m : Int} (h : ((n : Int) == m) = true) : (n : Int) = m := by simpa using h
theorem is_f {n : Nat} {m : Int} (h : ((n : Int) == m) = false) : (n : Int) ≠ m := by simpa using h
/-- Outside a string. -/
theorem u_92 {s : ByteArray} {k : Nat} (h : k < s.size) (h1 : ((s[k].toNat : Int) == 92) = true) : cbAt 0 s k = cbAt 0 s (k + 1) := by
  have := is_t h1; rw [cbAt_0 s k h, if_neg (by omega), if_neg (by omega)]
theorem u_34 {s : ByteArray} {k : Nat} (h : k < s.size) (h1 : ((s[k].toNat : Int) == 34) = true) : cbAt 0 s k = cbAt 1 s (k + 1) := by
  have := is_t h1; rw [cbAt_0 s k h, if_pos (by omega)]
theorem u_93 {s : ByteArray} {k : Nat} (h : k < s.size) (h1 : ((s[k].toNat : Int) == 93) = true) : cbAt 0 s k = (k : Int) := by
  have := is_t h1; rw [cbAt_0 s k h, if_neg (by omega), if_pos (by omega)]
theorem u_no {s : ByteArray} {k : Nat} (h : k < s.size) (h1 : ((s[k].toNat : Int) == 34) = false) (h2 : ((s[k].toNat : Int) == 93) = false) : cbAt 0 s k = cbAt 0 s (k + 1) := by
  have a := is_f h1; have b := is_f h2; rw [cbAt_0 s k h, if_neg (by omega), if_neg (by omega)]
/-- Inside a string. -/
theorem q_92 {s : ByteArray} {k : Nat} (h : k < s.size) (h1 : ((s[k].toNat : Int) == 92) = true) : cbAt 1 s k = cbAt 1 s (k + 2) := by
  have := is_t h1; rw [cbAt_1 s k h, if_pos (by omega)]
theorem q_34 {s : ByteArray} {k : Nat} (h : k < s.size) (h1 : ((s[k].toNat : Int) == 34) = true) : cbAt 1 s k = cbAt 0 s (k + 1) := by
  have := is_t h1; rw [cbAt_1 s k h, if_neg (by omega), if_pos (by omega)]
theorem q_no {s : ByteArray} {k : Nat} (h : k < s.size) (h1 : ((s[k].toNat : Int) == 92) = false) (h2 : ((s[k].toNat : Int) == 34) = false) : cbAt 1 s k = cbAt 1 s (k + 1) := by
  have a := is_f h1; have b := is_f h2; rw [cbAt_1 s k h, if_neg (by omega), if_neg (by omega)]

set_option maxHeartbeats 1000000 in
theorem cb16 (s : ByteArray) (w : World) (hs : s.size ≤ 4194304) : Calls Try.prog 16 #[.string s] w fun e w' => e = .returned (.int .i64 (cb s)) ∧ w' = w := by
  go_enter Try.func16, Try.ntmps16
  go_wp2
  go_loop [3, 4] (fun q t => ∃ (k : Nat) (b : Bool), k ≤ s.size + 1 ∧ t = .int .i64 k ∧ q = .bool b ∧ Hid (cbAt (if b then 1 else 0) s k = cb s)) (fun _ t => s.size + 1 - (intOf t).toNat)
  case atStart => exact ⟨0, false, by omega, rfl, rfl, rfl⟩
  case round =>
    obtain ⟨k, b, hk, rfl, rfl, HK⟩ := hrel
    by_cases hlt : k < s.size
    · cases b
      · have HK0 : Hid (cbAt 0 s k = cb s) := HK.out
        clear HK
        go_wp2
        · have h1 : ((s[k].toNat : Int) == 92) = true := by assumption
          go_round
          case rel => exact ⟨k + 1, false, by omega, by go_num, rfl, (u_92 hlt h1).symm.trans HK0.out⟩
          case measure => simp [intOf]; omega
        · have h1 : ((s[k].toNat : Int) == 34) = true := by assumption
          go_round
          case rel => exact ⟨k + 1, true, by omega, by go_num, rfl, (u_34 hlt h1).symm.trans HK0.out⟩
          case measure => simp [intOf]; omega
        · have h1 : ((s[k].toNat : Int) == 93) = true := by assumption
          go_ret
          exact ⟨ret_int ((u_93 hlt h1).symm.trans HK0.out), rfl⟩
        · have h1 : ((s[k].toNat : Int) == 34) = false := by assumption
          have h2 : ((s[k].toNat : Int) == 93) = false := by assumption
          go_round
          case rel => exact ⟨k + 1, false, by omega, by go_num, rfl, (u_no hlt h1 h2).symm.trans HK0.out⟩
          case measure => simp [intOf]; omega
      · have HK0 : Hid (cbAt 1 s k = cb s) := HK.out
        clear HK
        go_wp2
        · have h1 : ((s[k].toNat : Int) == 92) = true := by assumption
          go_round
          case rel => exact ⟨k + 2, true, by omega, by go_num, rfl, (q_92 hlt h1).symm.trans HK0.out⟩
          case measure => simp [intOf]; omega
        · have h1 : ((s[k].toNat : Int) == 34) = true := by assumption
          go_round
          case rel => exact ⟨k + 1, false, by omega, by go_num, rfl, (q_34 hlt h1).symm.trans HK0.out⟩
          case measure => simp [intOf]; omega
        · have h1 : ((s[k].toNat : Int) == 92) = false := by assumption
          have h2 : ((s[k].toNat : Int) == 34) = false := by assumption
          go_round
          case rel => exact ⟨k + 1, true, by omega, by go_num, rfl, (q_no hlt h1 h2).symm.trans HK0.out⟩
          case measure => simp [intOf]; omega
        · have h1 : ((s[k].toNat : Int) == 92) = false := by assumption
          have h2 : ((s[k].toNat : Int) == 34) = false := by assumption
          go_round
          case rel => exact ⟨k + 1, true, by omega, by go_num, rfl, (q_no hlt h1 h2).symm.trans HK0.out⟩
          case measure => simp [intOf]; omega
    · have e := cbAt_end (if b then 1 else 0) s k (by omega)
      rw [HK.out] at e
      have E : Hid (cb s = -1) := e
      clear e HK
      go_wp2
      go_ret
      exact ⟨ret_int E.out.symm, rfl⟩

set_option maxHeartbeats 1000000 in
theorem cb8 (s : ByteArray) (w : World) (hs : s.size ≤ 4194304) : Calls Try.prog 8 #[.string s] w fun e w' => e = .returned (.int .i64 (cb s)) ∧ w' = w := by
  go_enter Try.func8, Try.ntmps8
  go_wp2_with (go_at_call 16; refine (cb16 s _ hs).mono ?_; rintro e w' ⟨rfl, rfl⟩)
  go_ret
  exact ⟨rfl, rfl⟩

/-- tokStringEnd (function 17): from a place inside a string to its closing quote, or to the text's end. -/
theorem se_end {s : ByteArray} {j k : Nat} (h : s.size ≤ k) (H : cbAt 1 s j = cbAt 1 s k) : cbAt 1 s j = -1 := H.trans (cbAt_end 1 s k h)
set_option maxHeartbeats 1000000 in
theorem se17 (s : ByteArray) (j : Nat) (w : World) (hs : s.size ≤ 4194304) (hj : j ≤ s.size) : Calls Try.prog 17 #[.string s, .int .i64 (j : Int)] w fun e w' => ∃ x : Nat, e = .returned (.int .i64 (x : Int)) ∧ w' = w ∧ j ≤ x ∧ x ≤ s.size ∧ Hid ((x = s.size → cbAt 1 s j = -1) ∧ (x < s.size → cbAt 1 s j = cbAt 0 s (x + 1))) := by
  go_enter Try.func17, Try.ntmps17
  go_wp2
  go_loop [1] (fun t => ∃ k : Nat, j ≤ k ∧ k ≤ s.size + 1 ∧ t = .int .i64 k ∧ Hid (cbAt 1 s j = cbAt 1 s k)) (fun t => s.size + 1 - (intOf t).toNat)
  case atStart => exact ⟨j, Nat.le_refl _, by omega, rfl, rfl⟩
  case round =>
    obtain ⟨k, hk0, hk, rfl, HK⟩ := hrel
    by_cases hlt : k < s.size
    · go_wp2
      · have h1 : ((s[k].toNat : Int) == 34) = true := by assumption
        go_ret
        exact ⟨k, rfl, rfl, hk0, by omega, fun h => by omega, fun _ => HK.out.trans (q_34 hlt h1)⟩
      · have h1 : ((s[k].toNat : Int) == 92) = true := by assumption
        go_round
        case rel => exact ⟨k + 2, by omega, by omega, by go_num, HK.out.trans (q_92 hlt h1)⟩
        case measure => simp [intOf]; omega
      · have h1 : ((s[k].toNat : Int) == 92) = false := by assumption
        have h2 : ((s[k].toNat : Int) == 34) = false := by assumption
        go_round
        case rel => exact ⟨k + 1, by omega, by omega, by go_num, HK.out.trans (q_no hlt h1 h2)⟩
        case measure => simp [intOf]; omega
    · go_wp2
      go_ret
      exact ⟨s.size, rfl, rfl, by omega, Nat.le_refl _, fun _ => se_end (by omega) HK.out, fun h => absurd h (Nat.lt_irrefl _)⟩

theorem se17s (s : ByteArray) (k : Nat) (w : World) (hs : s.size ≤ 4194304) (hk : k < s.size) : Calls Try.prog 17 #[.string s, .int .i64 ((k : Int) + 1)] w fun e w' => ∃ x : Nat, e = .returned (.int .i64 (x : Int)) ∧ w' = w ∧ x ≤ s.size ∧ k < x ∧ Hid ((x = s.size → cbAt 1 s (k + 1) = -1) ∧ (x < s.size → cbAt 1 s (k + 1) = cbAt 0 s (x + 1))) := by
  have h := se17 s (k + 1) w hs (by omega)
  rw [show (((k + 1 : Nat)) : Int) = (k : Int) + 1 from rfl] at h
  exact h.mono fun e w' ⟨x, h1, h2, h3, h4, h5⟩ => ⟨x, h1, h2, h4, by omega, h5⟩

set_option maxHeartbeats 1000000 in
theorem tk9 (s : ByteArray) (w : World) (hs : s.size ≤ 4194304) : Calls Try.prog 9 #[.string s] w fun e w' => e = .returned (.int .i64 (cb s)) ∧ w' = w := by
  go_enter Try.func9, Try.ntmps9
  go_wp2
  go_loop [3] (fun t => ∃ k : Nat, k ≤ s.size ∧ t = .int .i64 k ∧ Hid (cbAt 0 s k = cb s)) (fun t => s.size - (intOf t).toNat)
  case atStart => exact ⟨0, by omega, rfl, rfl⟩
  case round =>
    obtain ⟨k, hk, rfl, HK⟩ := hrel
    by_cases hlt : k < s.size
    · go_wp2_with (go_at_call 17; refine (se17s s k _ hs hlt).mono ?_; rintro e w' ⟨x, rfl, rfl, hx1, hx2, HX⟩)
      · have h1 : ((s[k].toNat : Int) == 93) = true := by assumption
        go_ret
        exact ⟨ret_int ((u_93 hlt h1).symm.trans HK.out), rfl⟩
      · have h1 : ((s[k].toNat : Int) == 34) = true := by assumption
        go_ret
        exact ⟨ret_int (((HX.out.1 (by omega)).symm.trans (u_34 hlt h1).symm).trans HK.out), rfl⟩
      · have h1 : ((s[k].toNat : Int) == 34) = true := by assumption
        go_round
        case rel => exact ⟨x + 1, by omega, by go_num, ((HX.out.2 (by omega)).symm.trans (u_34 hlt h1).symm).trans HK.out⟩
        case measure => simp [intOf]; omega
      · have h1 : ((s[k].toNat : Int) == 34) = false := by assumption
        have h2 : ((s[k].toNat : Int) == 93) = false := by assumption
        go_round
        case rel => exact ⟨k + 1, by omega, by go_num, (u_no hlt h1 h2).symm.trans HK.out⟩
        case measure => simp [intOf]; omega
    · have E : Hid (cb s = -1) := HK.out.symm.trans (cbAt_end 0 s k (by omega))
      clear HK
      go_wp2
      go_ret
      exact ⟨ret_int E.out.symm, rfl⟩
end Go.Proofs.Qxb6602980a

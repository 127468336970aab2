/-
  The search for the closing bracket as a plain function on bytes: no Go in sight.
  States: 0: outside every string; 1: inside a string; 2: inside a string, behind a backslash.
-/
import Derived.WalkKit
namespace Go.Proofs.Qxb6602980a
set_option linter.unusedSimpArgs false
set_option linter.unusedVariables false

/-- The index (counted from k) of the first bracket outside every string, or -1. -/
def scan : Nat → List UInt8 → Nat → Int
  | _, [], _ => -1
  | 0, c :: cs, k => if c.toNat = 34 then scan 1 cs (k + 1) else if c.toNat = 93 then (k : Int) else scan 0 cs (k + 1)
  | 1, c :: cs, k => if c.toNat = 92 then scan 2 cs (k + 1) else if c.toNat = 34 then scan 0 cs (k + 1) else scan 1 cs (k + 1)
  | _, _ :: cs, k => scan 1 cs (k + 1)

theorem scan_nil (st k : Nat) : scan st [] k = -1 := by unfold scan; rfl
theorem scan_0 (c : UInt8) (cs : List UInt8) (k : Nat) : scan 0 (c :: cs) k = if c.toNat = 34 then scan 1 cs (k + 1) else if c.toNat = 93 then (k : Int) else scan 0 cs (k + 1) := rfl
theorem scan_1 (c : UInt8) (cs : List UInt8) (k : Nat) : scan 1 (c :: cs) k = if c.toNat = 92 then scan 2 cs (k + 1) else if c.toNat = 34 then scan 0 cs (k + 1) else scan 1 cs (k + 1) := rfl
theorem scan_2 (c : UInt8) (cs : List UInt8) (k : Nat) : scan 2 (c :: cs) k = scan 1 cs (k + 1) := rfl

/-- One step of the machine, from a state that it can be in. -/
theorem step (st : Nat) (h : st ≤ 2) (c : UInt8) : (st = 0 ∧ c.toNat = 93 ∧ ∀ cs k, scan st (c :: cs) k = (k : Int)) ∨ ∃ st', st' ≤ 2 ∧ ∀ cs k, scan st (c :: cs) k = scan st' cs (k + 1) := by
  match st, h with
  | 0, _ =>
    by_cases h1 : c.toNat = 34
    · exact Or.inr ⟨1, by omega, fun cs k => by rw [scan_0, if_pos h1]⟩
    · by_cases h2 : c.toNat = 93
      · exact Or.inl ⟨rfl, h2, fun cs k => by rw [scan_0, if_neg h1, if_pos h2]⟩
      · exact Or.inr ⟨0, by omega, fun cs k => by rw [scan_0, if_neg h1, if_neg h2]⟩
  | 1, _ =>
    by_cases h1 : c.toNat = 92
    · exact Or.inr ⟨2, by omega, fun cs k => by rw [scan_1, if_pos h1]⟩
    · by_cases h2 : c.toNat = 34
      · exact Or.inr ⟨0, by omega, fun cs k => by rw [scan_1, if_neg h1, if_pos h2]⟩
      · exact Or.inr ⟨1, by omega, fun cs k => by rw [scan_1, if_neg h1, if_neg h2]⟩
  | 2, _ => exact Or.inr ⟨1, by omega, fun cs k => scan_2 c cs k⟩

/-- What the answer can be: -1, or a place that holds the bracket. -/
theorem scan_range (l : List UInt8) : ∀ (st : Nat) (_ : st ≤ 2) (k : Nat), scan st l k = -1 ∨ ∃ m, ∃ h : m < l.length, scan st l k = ((k + m : Nat) : Int) ∧ (l[m]'h).toNat = 93 := by
  induction l with
  | nil => intro st _ k; exact Or.inl (scan_nil st k)
  | cons c cs ih =>
    intro st hst k
    rcases step st hst c with ⟨_, h1, h2⟩ | ⟨st', hst', h2⟩
    · exact Or.inr ⟨0, by simp, by rw [h2]; simp, h1⟩
    · rw [h2]
      rcases ih st' hst' (k + 1) with h | ⟨m, hm, h3, h4⟩
      · exact Or.inl h
      · exact Or.inr ⟨m + 1, by simp; omega, by rw [h3]; congr 1; omega, by simpa using h4⟩

/-- More text behind does not turn an answer; nor does what stands from the answer on. -/
theorem scan_append (l l' : List UInt8) : ∀ (st : Nat) (_ : st ≤ 2) (k : Nat), scan st l k ≠ -1 → scan st (l ++ l') k = scan st l k := by
  induction l with
  | nil => intro st _ k h; exact absurd (scan_nil st k) h
  | cons c cs ih =>
    intro st hst k h
    rcases step st hst c with ⟨_, h1, h2⟩ | ⟨st', hst', h2⟩
    · rw [List.cons_append, h2, h2]
    · rw [h2] at h
      rw [List.cons_append, h2, h2]
      exact ih st' hst' (k + 1) h
theorem scan_take (l : List UInt8) : ∀ (st : Nat) (_ : st ≤ 2) (k m : Nat), scan st l k = ((k + m : Nat) : Int) → scan st (l.take m) k = -1 := by
  induction l with
  | nil => intro st _ k m h; rw [List.take_nil]; exact scan_nil st k
  | cons c cs ih =>
    intro st hst k m h
    match m with
    | 0 => exact scan_nil st k
    | m + 1 =>
      rw [List.take_succ_cons]
      rcases step st hst c with ⟨_, h1, h2⟩ | ⟨st', hst', h2⟩
      · rw [h2] at h; omega
      · rw [h2] at h ⊢
        exact ih st' hst' (k + 1) m (by rw [h]; congr 1; omega)
/-- No answer in the first text: the search goes on in the second, in some state. -/
theorem scan_append_none (l l' : List UInt8) : ∀ (st : Nat) (_ : st ≤ 2) (k : Nat), scan st l k = -1 → ∃ st', st' ≤ 2 ∧ scan st (l ++ l') k = scan st' l' (k + l.length) := by
  induction l with
  | nil => intro st hst k _; exact ⟨st, hst, by simp⟩
  | cons c cs ih =>
    intro st hst k h
    rcases step st hst c with ⟨_, h1, h2⟩ | ⟨st', hst', h2⟩
    · rw [h2] at h; omega
    · rw [h2] at h
      obtain ⟨st2, hs2, h3⟩ := ih st' hst' (k + 1) h
      refine ⟨st2, hs2, ?_⟩
      rw [List.cons_append, h2, h3, List.length_cons]
      congr 1; omega
/-- The answer, counted from another place. -/
theorem scan_shift (l : List UInt8) : ∀ (st : Nat) (_ : st ≤ 2) (k d : Nat), scan st l (k + d) = if scan st l k = -1 then -1 else scan st l k + d := by
  induction l with
  | nil => intro st _ k d; rw [scan_nil, scan_nil]; simp
  | cons c cs ih =>
    intro st hst k d
    rcases step st hst c with ⟨_, h1, h2⟩ | ⟨st', hst', h2⟩
    · rw [h2, h2, if_neg (by omega)]; simp
    · rw [h2, h2, ← ih st' hst' (k + 1) d]
      congr 1; omega
/-- Behind a backslash inside a string one byte is skipped. -/
theorem scan_skip (l : List UInt8) (k : Nat) : scan 2 (l.drop k) k = scan 1 (l.drop (k + 1)) (k + 1) := by
  by_cases h : k < l.length
  · rw [List.drop_eq_getElem_cons h, scan_2]
  · rw [List.drop_of_length_le (by omega), List.drop_of_length_le (by omega), scan_nil, scan_nil]

/-- The bytes of a text. -/
def bs (s : ByteArray) : List UInt8 := s.data.toList
theorem bs_len (s : ByteArray) : (bs s).length = s.size := rfl
theorem bs_drop (s : ByteArray) (k : Nat) (h : k < s.size) : (bs s).drop k = s[k] :: (bs s).drop (k + 1) := by
  rw [List.drop_eq_getElem_cons (show k < (bs s).length from h)]; rfl
/-- Where a search from place k in state st stands. -/
def cbAt (st : Nat) (s : ByteArray) (k : Nat) : Int := scan st ((bs s).drop k) k
/-- The answer of closingBracket. -/
def cb (s : ByteArray) : Int := scan 0 (bs s) 0
theorem cb_at (s : ByteArray) : cbAt 0 s 0 = cb s := rfl
theorem cbAt_end (st : Nat) (s : ByteArray) (k : Nat) (h : s.size ≤ k) : cbAt st s k = -1 := by
  unfold cbAt; rw [List.drop_of_length_le (by rw [bs_len]; exact h), scan_nil]
theorem cbAt_0 (s : ByteArray) (k : Nat) (h : k < s.size) : cbAt 0 s k = if s[k].toNat = 34 then cbAt 1 s (k + 1) else if s[k].toNat = 93 then (k : Int) else cbAt 0 s (k + 1) := by
  unfold cbAt; rw [bs_drop s k h, scan_0]
theorem cbAt_1 (s : ByteArray) (k : Nat) (h : k < s.size) : cbAt 1 s k = if s[k].toNat = 92 then cbAt 1 s (k + 2) else if s[k].toNat = 34 then cbAt 0 s (k + 1) else cbAt 1 s (k + 1) := by
  unfold cbAt; rw [bs_drop s k h, scan_1, scan_skip]
theorem cb_range (s : ByteArray) : cb s = -1 ∨ ∃ m, ∃ h : m < s.size, cb s = (m : Int) ∧ s[m].toNat = 93 := by
  rcases scan_range (bs s) 0 (by omega) 0 with h | ⟨m, hm, h1, h2⟩
  · exact Or.inl h
  · exact Or.inr ⟨m, hm, by rw [cb, h1]; simp, h2⟩
end Go.Proofs.Qxb6602980a

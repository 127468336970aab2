/-
  The release rule as a plain function: no Go in sight.
-/
import Derived.Test.Qxb6602866aKitH
namespace Go.Proofs.Qxb6602866a
set_option linter.unusedSimpArgs false
set_option linter.unusedVariables false

/-- Does the number r say one request more than l (in 64 bits)? -/
def duB (r l : Int) : Bool := r == IntKind.u64.wrap (l + 1)
/-- Is x among q? -/
def inB (q : List Int) (x : Int) : Bool := q.contains x
/-- Does node k + 1 join the queue q of the node i + 1 ? -/
def joinB (rn ln : List Int) (i : Nat) (q : List Int) (k : Nat) : Bool :=
  !(k == i) && (duB (rn.getD k 0) (ln.getD k 0) && !(inB q ((k : Int) + 1)))
/-- The queue behind the scan of the first k nodes. -/
def fullQ (rn ln : List Int) (i : Nat) (q : List Int) : Nat → List Int
  | 0 => q
  | k + 1 => if joinB rn ln i (fullQ rn ln i q k) k then fullQ rn ln i q k ++ [(k : Int) + 1] else fullQ rn ln i q k

theorem fullQ_len (rn ln : List Int) (i : Nat) (q : List Int) (k : Nat) : (fullQ rn ln i q k).length ≤ q.length + k ∧ q.length ≤ (fullQ rn ln i q k).length := by
  induction k with
  | zero => simp [fullQ]
  | succ k ih =>
    rw [fullQ]
    split
    · rw [List.length_append, List.length_singleton]; omega
    · omega
theorem fullQ_yes (rn ln : List Int) (i : Nat) (q : List Int) (k : Nat) (h1 : k ≠ i) (h2 : duB (rn.getD k 0) (ln.getD k 0) = true) (h3 : inB (fullQ rn ln i q k) ((k : Int) + 1) = false) : fullQ rn ln i q (k + 1) = fullQ rn ln i q k ++ [(k : Int) + 1] := by
  rw [fullQ, if_pos]; unfold joinB; rw [h2, h3]; simpa using h1
theorem fullQ_no1 (rn ln : List Int) (i : Nat) (q : List Int) : fullQ rn ln i q (i + 1) = fullQ rn ln i q i := by
  rw [fullQ, if_neg]; unfold joinB; simp
theorem fullQ_no2 (rn ln : List Int) (i : Nat) (q : List Int) (k : Nat) (h2 : duB (rn.getD k 0) (ln.getD k 0) = false) : fullQ rn ln i q (k + 1) = fullQ rn ln i q k := by
  rw [fullQ, if_neg]; unfold joinB; rw [h2]; simp
theorem fullQ_no3 (rn ln : List Int) (i : Nat) (q : List Int) (k : Nat) (h3 : inB (fullQ rn ln i q k) ((k : Int) + 1) = true) : fullQ rn ln i q (k + 1) = fullQ rn ln i q k := by
  rw [fullQ, if_neg]; unfold joinB; rw [h3]; simp
end Go.Proofs.Qxb6602866a

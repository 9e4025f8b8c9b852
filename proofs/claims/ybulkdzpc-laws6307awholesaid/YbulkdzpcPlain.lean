/-
  The plain part of seat b6307a: the escape of one octet and of a list of octets, as a function on numbers. No Go here.
-/
import Derived.WalkKit
namespace Go.Proofs.Ybulkdzpc.Pl

/-- The escape of one octet. -/
def esc (c : Int) : List Int :=
  if 32 ≤ c ∧ c ≤ 126 then (if c = 34 ∨ c = 92 then [92, c] else [c]) else [92, 48 + c / 100, 48 + c / 10 % 10, 48 + c % 10]

def escs (l : List Int) : List Int := l.flatMap esc

theorem esc_out {c : Int} (h : ¬ (32 ≤ c ∧ c ≤ 126)) : esc c = [92, 48 + c / 100, 48 + c / 10 % 10, 48 + c % 10] := by
  unfold esc; rw [if_neg h]
theorem esc_two {c : Int} (h : 32 ≤ c ∧ c ≤ 126) (h2 : c = 34 ∨ c = 92) : esc c = [92, c] := by
  unfold esc; rw [if_pos h, if_pos h2]
theorem esc_one {c : Int} (h : 32 ≤ c ∧ c ≤ 126) (h2 : ¬ (c = 34 ∨ c = 92)) : esc c = [c] := by
  unfold esc; rw [if_pos h, if_neg h2]
theorem esc_len (c : Int) : (esc c).length ≤ 4 := by
  unfold esc; split; · split <;> simp
  · simp
theorem escs_len (l : List Int) : (escs l).length ≤ 4 * l.length := by
  induction l with
  | nil => simp [escs]
  | cons a t ih => have := esc_len a; simp [escs] at *; omega
theorem escs_nil : escs [] = [] := rfl
theorem escs_snoc (l : List Int) (c : Int) : escs (l ++ [c]) = escs l ++ esc c := by simp [escs]
theorem take_snoc (l : List Int) (k : Nat) (h : k < l.length) : l.take (k + 1) = l.take k ++ [l.getD k 0] := by
  rw [List.take_succ_eq_append_getElem h]; simp [List.getD, h]
theorem escs_take (l : List Int) (k : Nat) (h : k < l.length) : escs (l.take (k + 1)) = escs (l.take k) ++ esc (l.getD k 0) := by
  rw [take_snoc l k h, escs_snoc]

end Go.Proofs.Ybulkdzpc.Pl

/-
  The plain part of seat b6308a: what a map from numbers to bools holds behind a script of stores, and how many keys it has. No Go here.
-/
import Derived.WalkKit
namespace Go.Proofs.Ybulkdzpq.Pl

def upd (f : Int → Option Bool) (k : Int) (v : Bool) : Int → Option Bool := fun x => if x = k then some v else f x

/-- How many keys there are behind a store at k. -/
def bump (f : Int → Option Bool) (k : Int) (s : Nat) : Nat := if (f k).isSome then s else s + 1

/-- What stands where behind the first i stores. -/
def M (key : Nat → Int) (val : Nat → Bool) : Nat → Int → Option Bool
  | 0 => fun _ => none
  | i + 1 => upd (M key val i) (key i) (val i)

/-- How many keys there are behind the first i stores. -/
def S (key : Nat → Int) (val : Nat → Bool) : Nat → Nat
  | 0 => 0
  | i + 1 => bump (M key val i) (key i) (S key val i)

/-- Is the i-th key met before? -/
def dup (key : Nat → Int) (i : Nat) : Bool := (List.range i).any fun j => key j == key i

/-- The count that the law makes. -/
def C (key : Nat → Int) (start : Int) : Nat → Nat
  | 0 => 1
  | i + 1 => if key i = start then C key start i else if dup key i then C key start i else C key start i + 1

theorem upd_same (f : Int → Option Bool) (k : Int) (v : Bool) : upd f k v k = some v := by simp [upd]
theorem upd_other (f : Int → Option Bool) {k x : Int} (v : Bool) (h : x ≠ k) : upd f k v x = f x := by simp [upd, h]

theorem M_some (key : Nat → Int) (val : Nat → Bool) (k : Int) : ∀ i, (M key val i k).isSome = (List.range i).any fun j => key j == k
  | 0 => by simp [M]
  | i + 1 => by
    rw [List.range_succ, List.any_append]
    by_cases h : k = key i
    · subst h; simp [M, upd]
    · have h' : (key i == k) = false := by simpa using fun e => h e.symm
      simp [M, upd, h, h', M_some key val k i]

theorem M_dup (key : Nat → Int) (val : Nat → Bool) (i : Nat) : (M key val i (key i)).isSome = dup key i := M_some key val (key i) i

theorem dup_no {key : Nat → Int} {i : Nat} (h : ∀ j, j < i → key j ≠ key i) : dup key i = false := by
  unfold dup
  rw [List.any_eq_false]
  intro j hj
  simpa using h j (by simpa using hj)
theorem dup_yes {key : Nat → Int} {i j : Nat} (hj : j < i) (h : key j = key i) : dup key i = true := by
  unfold dup
  rw [List.any_eq_true]
  exact ⟨j, by simpa using hj, by simpa using h⟩

theorem C_eq (key : Nat → Int) (val : Nat → Bool) (start : Int) : ∀ i, bump (M key val i) start (S key val i) = C key start i
  | 0 => by simp [M, S, C, bump]
  | i + 1 => by
    have ih := C_eq key val start i
    by_cases h : key i = start
    · subst h
      simp only [M, S, C, bump, upd_same] at *
      simpa using ih
    · have h' : start ≠ key i := fun e => h e.symm
      simp only [M, S, C, bump, upd_other _ _ h', if_neg h, M_dup key val i] at *
      rw [← ih]
      cases dup key i <;> cases (M key val i start).isSome <;> simp

theorem C_start {key : Nat → Int} {start : Int} {i : Nat} (h : key i = start) : C key start (i + 1) = C key start i := if_pos h
theorem C_dup {key : Nat → Int} {start : Int} {i : Nat} (h : key i ≠ start) (hd : dup key i = true) : C key start (i + 1) = C key start i := (if_neg h).trans (if_pos hd)
theorem C_new {key : Nat → Int} {start : Int} {i : Nat} (h : key i ≠ start) (hd : dup key i = false) : C key start (i + 1) = C key start i + 1 := (if_neg h).trans (if_neg (by simp [hd]))

theorem C_le (key : Nat → Int) (start : Int) : ∀ i, C key start i ≤ i + 1
  | 0 => by simp [C]
  | i + 1 => by
    have := C_le key start i
    unfold C
    split
    · omega
    · split <;> omega
theorem S_le (key : Nat → Int) (val : Nat → Bool) : ∀ i, S key val i ≤ i
  | 0 => by simp [S]
  | i + 1 => by
    have := S_le key val i
    unfold S bump
    split <;> omega

theorem M_hit (key : Nat → Int) (val : Nat → Bool) (n i : Nat) (h : i < n) : (M key val n (key i)).isSome = true := by
  rw [M_some, List.any_eq_true]
  exact ⟨i, by simpa using h, by simp⟩

theorem M_step_hit {key : Nat → Int} {val : Nat → Bool} {i : Nat} {k : Int} (h : key i = k) : M key val (i + 1) k = some (val i) := by
  subst h; simp [M, upd]
theorem M_step_miss {key : Nat → Int} {val : Nat → Bool} {i : Nat} {k : Int} (h : key i ≠ k) : M key val (i + 1) k = M key val i k := by
  exact upd_other _ _ (fun e => h e.symm)

end Go.Proofs.Ybulkdzpq.Pl

/-
  Seat b6311a: the contracts of the leaves.
-/
import Derived.Test.YbulkdzrgLocks
import Derived.Below
import Derived.WalkKit
import Derived.WalkSpells
namespace Go.Proofs.Ybulkdzrg
open Go.RowKit

abbrev apV (p : Int) : Value := .agg #[.int .u64 0, .int .u64 0, .pointer none, .int .u16 p]
abbrev apC (p : Int) : List Value := [.int .u64 0, .int .u64 0, .pointer none, .int .u16 p]

set_option maxRecDepth 100000 in
theorem apf4 (p : Int) (w : World) : Calls Yba.prog 4 #[.agg #[.int .u64 0, .int .u64 0, .pointer none], .int .u16 p] w fun e w' => e = .returned (apV p) ∧ Below w.heap.size w w' := by
  go_enter Yba.func4, Yba.ntmps4
  go_wp2
  refine bodyPost_ret (v := apV p) ?_ rfl ⟨rfl, ((Below.refl _ w).alloc (Nat.le_refl _) _).alloc (by simp) _⟩
  exact results_cell_row rfl _ _ (w.heap.size + 1) 34 _ (0, 0) _ rfl (heap_alloc2_new w _ _) Yba.underlying34 rfl (by kernel_rfl)

set_option maxRecDepth 100000 in
theorem port6 (p : Int) (w : World) : Calls Yba.prog 6 #[apV p] w fun e w' => e = .returned (.int .u16 p) ∧ Below w.heap.size w w' := by
  go_enter Yba.func6, Yba.ntmps6
  go_wp2
  go_ret
  exact ⟨rfl, ((Below.refl _ w).alloc (Nat.le_refl _) _)⟩

set_option maxRecDepth 100000 in
theorem addr7 (p : Int) (w : World) : Calls Yba.prog 7 #[apV p] w fun e w' => e = .returned (.agg #[.int .u64 0, .int .u64 0, .pointer none]) ∧ Below w.heap.size w w' := by
  go_enter Yba.func7, Yba.ntmps7
  go_wp2
  refine bodyPost_ret (v := .agg #[.int .u64 0, .int .u64 0, .pointer none]) ?_ rfl ⟨rfl, ((Below.refl _ w).alloc (Nat.le_refl _) _).alloc (by simp) _⟩
  exact results_cell_row rfl _ _ (w.heap.size + 1) 31 _ (0, 0) _ rfl (heap_alloc2_new w _ _) Yba.underlying31 rfl (by kernel_rfl)

theorem Yba.info34 : (Yba.prog.info? 34).map (fun i => (i.zero, i.size, i.bytes)) = some (some (apV 0), 4, 32) := by kernel_rfl

/-- The cells of a row of address ports. -/
def cellOf (q : Nat → Int) (j : Nat) : Value := if j % 4 = 3 then .int .u16 (q (j / 4)) else if j % 4 = 2 then .pointer none else .int .u64 0
def cellsP (q : Nat → Int) (m : Nat) : List Value := (List.range (m * 4)).map (cellOf q)
theorem cellsP_len (q : Nat → Int) (m : Nat) : (cellsP q m).length = m * 4 := by simp [cellsP]
theorem cellsP_at (q : Nat → Int) (m j : Nat) (h : j < m * 4) : (cellsP q m)[j]? = some (cellOf q j) := by simp [cellsP, h]
theorem cellsP_some {q : Nat → Int} {m j : Nat} {u : Value} (h : (cellsP q m)[j]? = some u) : j < m * 4 ∧ u = cellOf q j := by
  have hj : j < m * 4 := by have := (List.getElem?_eq_some_iff.1 h).1; rw [cellsP_len] at this; exact this
  rw [cellsP_at q m j hj] at h
  exact ⟨hj, (Option.some.inj h).symm⟩
theorem cellOf_one (q : Nat → Int) (j : Nat) : (cellOf q j).oneCell' = true := by unfold cellOf; split; rfl; split <;> rfl
theorem cellOf_0 (q : Nat → Int) (i : Nat) : cellOf q (i * 4) = .int .u64 0 := by unfold cellOf; rw [if_neg (by omega), if_neg (by omega)]
theorem cellOf_1 (q : Nat → Int) (i : Nat) : cellOf q (i * 4 + 1) = .int .u64 0 := by unfold cellOf; rw [if_neg (by omega), if_neg (by omega)]
theorem cellOf_2 (q : Nat → Int) (i : Nat) : cellOf q (i * 4 + 2) = .pointer none := by unfold cellOf; rw [if_neg (by omega), if_pos (by omega)]
theorem cellOf_3 (q : Nat → Int) (i : Nat) : cellOf q (i * 4 + 3) = .int .u16 (q i) := by unfold cellOf; rw [if_pos (by omega), show (i * 4 + 3) / 4 = i by omega]

/-- Where a slice of address ports lies: a row of the call's own, whole, unfrozen. -/
def LiesP (w : World) (M m : Nat) (q : Nat → Int) : Prop := ∃ cur : Array Value, w.heap[M]? = some (.cells cur 34 (0, 0)) ∧ m * 4 ≤ cur.size ∧ ∀ j, j < m * 4 → cur[j]? = some (cellOf q j)

theorem LiesP.lt {w : World} {M m : Nat} {q : Nat → Int} (h : LiesP w M m q) : M < w.heap.size := by obtain ⟨cur, h, _⟩ := h; exact (Array.getElem?_eq_some_iff.1 h).1
theorem LiesP.block {w w' : World} {M m : Nat} {q : Nat → Int} (h : LiesP w M m q) (hb : w'.heap[M]? = w.heap[M]?) : LiesP w' M m q := by obtain ⟨cur, h1, h2⟩ := h; exact ⟨cur, hb.trans h1, h2⟩
theorem LiesP.cell {w : World} {M m : Nat} {q : Nat → Int} (h : LiesP w M m q) {j : Nat} (hj : j < m * 4) : w.cell? ⟨M, j, none⟩ = some (cellOf q j) := by
  obtain ⟨cur, h1, _, h2⟩ := h; simp only [World.cell?, h1]; exact h2 j hj
theorem LiesP.free {w : World} {M m : Nat} {q : Nat → Int} (h : LiesP w M m q) (j : Nat) : w.frozen? ⟨M, j, none⟩ = false := by
  obtain ⟨cur, h1, _⟩ := h; simp [World.frozen?, h1]
theorem LiesP.at4 {w : World} {M m : Nat} {q : Nat → Int} (h : LiesP w M m q) {i : Nat} (hi : i < m) :
    w.cell? ⟨M, i * 4, none⟩ = some (.int .u64 0) ∧ w.cell? ⟨M, i * 4 + 1, none⟩ = some (.int .u64 0) ∧ w.cell? ⟨M, i * 4 + 2, none⟩ = some (.pointer none) ∧ w.cell? ⟨M, i * 4 + 3, none⟩ = some (.int .u16 (q i)) :=
  ⟨by rw [h.cell (by omega), cellOf_0], by rw [h.cell (by omega), cellOf_1], by rw [h.cell (by omega), cellOf_2], by rw [h.cell (by omega), cellOf_3]⟩

theorem owned_lies {w : World} {base : Nat} {v : Value} {m : Nat} {q : Nat → Int} (h : w.ownsRow base 34 4 v m (cellsP q m)) (hv : v ≠ .slice none 0 0) : ∃ g c, v = .slice (some ⟨g, 0, none⟩) m c ∧ base ≤ g ∧ LiesP w g m q := by
  obtain ⟨_, h2⟩ := h
  rcases h2 with ⟨h2, _⟩ | ⟨g, cap, cur, hv', hb, hh, hnc, hcm, hcs, htake⟩
  · exact absurd h2 hv
  · have hle : m * 4 ≤ cur.size := by rw [hcs]; omega
    refine ⟨g, cap, hv', hb, cur, hh, hle, fun j hj => ?_⟩
    have h3 := cellsP_at q m j hj
    rw [← htake, List.getElem?_take_of_lt hj] at h3
    simpa using h3

set_option maxRecDepth 100000 in
set_option maxHeartbeats 800000 in
/-- slices.Clone of a slice that is not nil. -/
theorem clone11 (M m cap : Nat) (q : Nat → Int) (w : World) (hm : m ≤ 1048576) (h : LiesP w M m q) :
    Calls Yba.prog 11 #[.slice (some ⟨M, 0, none⟩) m cap] w fun e w' => ∃ g c, e = .returned (.slice (some ⟨g, 0, none⟩) m c) ∧ w.heap.size ≤ g ∧ LiesP w' g m q ∧ Below w.heap.size w w' := by
  obtain ⟨i0, hi, hz0, hz1, hz2⟩ := info_parts Yba.info34
  have q24 : ∀ (w : World) (a : Option Addr) (n c n' c' : Nat), (binOp .eql 24 (.slice a n c) (.slice none n' c')).run Yba.prog w = .ok (.bool a.isNone) w := fun w a n c n' c' => Lib.run_eql_slice_nil w _ _ a n c n' c' Yba.underlying24
  have hown : (w.alloc (.cells #[] 34)).ownsRow w.heap.size 34 4 (.slice (some ⟨w.heap.size, 0, none⟩) 0 0) 0 [] := World.ownsRow_made w #[] 0 (Nat.le_refl _) (by unfold maxLen; omega) rfl
  have hnews : ∀ (j : Nat) u, (cellsP q m)[j]? = some u → (w.alloc (.cells #[] 34)).cell? ((⟨M, 0, none⟩ : Addr).add j) = some u := by
    intro j u hj
    obtain ⟨hjl, rfl⟩ := cellsP_some hj
    have e : (⟨M, 0, none⟩ : Addr).add j = ⟨M, j, none⟩ := by simp [Addr.add]; exact Eq.symm
    rw [e, World.cell?_alloc_lt (a := ⟨M, j, none⟩) (h := h.lt)]
    exact h.cell hjl
  have hone : ∀ u ∈ cellsP q m, u.oneCell' = true := by
    intro u hu
    simp [cellsP] at hu
    obtain ⟨j, _, rfl⟩ := hu
    exact cellOf_one q j
  go_enter Yba.func11, Yba.ntmps11
  go_wp2_with (at_builtin; refine wpList_append_own _ rfl (.tmp 5) (.tmp 6) 24 rfl w.heap.size 34 i0 (apV 0) 4 32 Yba.underlying24 hi hz0 hz1 hz2 rfl (by decide) _ _ _ rfl hown ⟨M, 0, none⟩ m cap (cellsP q m) rfl (cellsP_len q m) hnews hone (by unfold maxLen; omega) (by omega) (by simp) ?_; intro v' w1 ho hg hd; obtain ⟨g, c, hv, hge, hl⟩ := owned_lies (q := q) (m := m) (by simpa using ho) (fun e => by have := (hd.1 e).1; cases this); subst hv)
  go_ret
  refine ⟨g, c, rfl, hge, hl, ((Below.refl _ w).alloc (Nat.le_refl _) _).grown hg (by simp) (fun k hk => ?_)⟩
  exact (hown.lt k hk).1

set_option maxRecDepth 100000 in
theorem clone11_nil (w : World) : Calls Yba.prog 11 #[.slice none 0 0] w fun e w' => e = .returned (.slice none 0 0) ∧ w' = w := by
  have q24 : ∀ (w : World) (a : Option Addr) (n c n' c' : Nat), (binOp .eql 24 (.slice a n c) (.slice none n' c')).run Yba.prog w = .ok (.bool a.isNone) w := fun w a n c n' c' => Lib.run_eql_slice_nil w _ _ a n c n' c' Yba.underlying24
  go_enter Yba.func11, Yba.ntmps11
  go_wp2
  go_ret
  exact ⟨rfl, rfl⟩

end Go.Proofs.Ybulkdzrg

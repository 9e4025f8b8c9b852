/-
  Seat b6311a: the law where 'ports' is nil.
-/
import Derived.Test.YbulkdzrgRepo
namespace Go.Proofs.Ybulkdzrg
open Go.RowKit Go.MuLone

noncomputable def Z98 : Array Value := match (Yba.prog.info? 98).bind (·.zero) with | some (.agg cs) => cs | _ => #[]
theorem z98 (w : World) : (zeroValue 98).run Yba.prog w = .ok (.agg Z98) w := by kernel_rfl
theorem z98_size : Z98.size = 110 := by kernel_rfl
theorem z98_mu : Z98[37]? = some (.int .i32 0) := by kernel_rfl
/-- The node that the law makes. -/
noncomputable def nodeC (key high ser : Int) (v : Value) : Array Value := (((Z98.setIfInBounds 57 (.int .u64 key)).setIfInBounds 58 (.int .u64 high)).setIfInBounds 59 (.int .u64 ser)).setIfInBounds 60 v
theorem nodeC_nd {w : World} {X : Nat} {key high ser : Int} {v : Value} (h : w.heap[X]? = some (.cells (nodeC key high ser v) 98 (0, 0))) : Nd w X 0 key high ser v := by
  have hs := z98_size
  have hm := z98_mu
  refine ⟨_, h, ?_, ?_, ?_, ?_, ?_⟩ <;> unfold nodeC
  · rw [Array.getElem?_setIfInBounds_ne (by omega), Array.getElem?_setIfInBounds_ne (by omega), Array.getElem?_setIfInBounds_ne (by omega), Array.getElem?_setIfInBounds_ne (by omega)]; exact hm
  all_goals simp [hs]
attribute [irreducible] Z98

set_option maxRecDepth 100000 in
set_option maxHeartbeats 4000000 in
theorem lawNil (key high ser : Int) (w : World) :
    Calls Yba.prog 3 #[.slice none 0 0, .int .u64 key, .int .u64 high, .int .u64 ser] w fun e w' => e = .returned (.bool true) ∧ Below w.heap.size w w' := by
  have q24 : ∀ (w : World) (a : Option Addr) (n c n' c' : Nat), (binOp .eql 24 (.slice a n c) (.slice none n' c')).run Yba.prog w = .ok (.bool a.isNone) w := fun w a n c n' c' => Lib.run_eql_slice_nil w _ _ a n c n' c' Yba.underlying24
  have q22 : ∀ (w : World) (a : Option Addr) (n c n' c' : Nat), (binOp .eql 22 (.slice a n c) (.slice none n' c')).run Yba.prog w = .ok (.bool a.isNone) w := fun w a n c n' c' => Lib.run_eql_slice_nil w _ _ a n c n' c' Yba.underlying22
  have p22 : ∀ (w : World) (a : Option Addr) (n c : Nat), (binOp .neq 22 (.slice a n c) (.slice none 0 0)).run Yba.prog w = .ok (.bool (!a.isNone)) w := fun w a n c => run_neq_slice_nil_any w 22 32 a n c 0 0 Yba.underlying22
  have hz := z98
  have hzs := z98_size
  go_enter Yba.func3, Yba.ntmps3
  go_wp2_with (go_at_call 5; refine (repo5_nil w.heap.size w.heap.size key high ser _ ?_ (Nat.le_refl _)).mono ?_; exact nodeC_nd (heap_alloc_new w _); rintro e w1 ⟨rfl, hN, hb⟩; obtain ⟨c0, c1, c2, c3, c4⟩ := hN.cells)
  refine wp_loop_rounds 1 ?_
  rw [rounds_succ]
  go_wp2
  refine wp_loop_rounds 1 ?_
  rw [rounds_succ]
  go_wp2
  refine wp_loop_rounds 1 ?_
  rw [rounds_succ]
  have hX := hN.lt
  have hb1 : Below w.heap.size w w1 := ((Below.refl _ w).alloc (Nat.le_refl _) _).trans hb
  go_wp2_with fail
  refine (try_free ⟨w.heap.size, 37, none⟩ _ ?_ ?_).mono ?_
  · exact (hN.block (Below.heap_alloc w1 _ _ hN.lt)).cells.1
  · exact (hN.block (Below.heap_alloc w1 _ _ hN.lt)).free 37
  rintro e wt ⟨rfl, hwt⟩
  have hNt : Nd wt w.heap.size 1 key high ser (.slice none 0 0) := by rw [hwt]; exact (hN.block (Below.heap_alloc w1 _ _ hN.lt)).lock 1
  have hbt : Below w.heap.size w wt := by rw [hwt]; exact (hb1.alloc hb1.size _).setCell (p := ⟨w.heap.size, 37, none⟩) (Nat.le_refl _) _
  clear hwt
  go_wp2_with fail
  refine (unlock_held Yba.muLib ⟨w.heap.size, 37, none⟩ wt hNt.cells.1 (hNt.free 37)).mono ?_
  rintro e wu ⟨rfl, hwu⟩
  have hbu : Below w.heap.size w wu := by rw [hwu]; exact hbt.setCell (p := ⟨w.heap.size, 37, none⟩) (Nat.le_refl _) _
  clear hwu
  go_wp2
  go_ret
  exact ⟨rfl, hbu⟩

end Go.Proofs.Ybulkdzrg

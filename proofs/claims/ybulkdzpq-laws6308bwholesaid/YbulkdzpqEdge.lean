/-
  Seat b6308a: the walk of the law, where the map is nil at the call, and where there is no key.
-/
import Derived.Test.YbulkdzpqWalk
namespace Go.Proofs.Ybulkdzpq
open Go.RowKit Go.Maps Go.MuLone

theorem made_box0 (w : World) (blocks : Int) : Box (w.alloc (.cells (boxCells blocks 0 none) 45)) w.heap.size blocks 0 none := heap_new w _

set_option maxRecDepth 100000 in
set_option maxHeartbeats 4000000 in
/-- The map is nil at the call. -/
theorem nilMap (start count crc blocks : Int) (ak : Option Addr) (lk ck : Nat) (av : Option Addr) (lv cv : Nat) (withErr : Bool) (w : World) (hl : lk ≤ 4096) (hws : (Lit.int .u64 start).wf = true) :
    Calls Yba.prog 3 #[.int .u64 start, .int .u64 count, .int .u32 crc, .int .u64 blocks, .slice ak lk ck, .slice av lv cv, .bool true, .bool withErr] w fun e w' => e = .returned (.bool true) ∧ Below w.heap.size w w' := by
  have q42 : ∀ (w : World) (r : Option Nat), (binOp .eql 42 (.map r) (.map none)).run Yba.prog w = .ok (.bool r.isNone) w := fun w r => run_eql_map_nil w _ _ _ r Yba.underlying42
  have q35 : ∀ (w : World) (r : Option Nat), (binOp .neq 35 (.map r) (.map none)).run Yba.prog w = .ok (.bool (!r.isNone)) w := fun w r => run_neq_map_nil w _ _ _ r Yba.underlying35
  have q43 : ∀ (w : World) (r : Option Nat), (binOp .neq 43 (.map r) (.map none)).run Yba.prog w = .ok (.bool (!r.isNone)) w := fun w r => run_neq_map_nil w _ _ _ r Yba.underlying43
  have hmm := @run_makeMap Yba.prog
  have h4096 : decide ((4096 : Int) < (lk : Int)) = false := decide_eq_false (by omega)
  have hbox0 := made_box0 w blocks
  have hbel0 : Below w.heap.size w (w.alloc (.cells (boxCells blocks 0 none) 45)) := (Below.refl _ w).alloc (Nat.le_refl _) _
  obtain ⟨wb, hwb⟩ : ∃ wb, wb = w.alloc (.cells (boxCells blocks 0 none) 45) := ⟨_, rfl⟩
  rw [← hwb] at hbox0 hbel0
  have HWB : Hid (w.alloc (.cells (boxCells blocks 0 none) 45) = wb) := hwb.symm
  clear hwb
  cases withErr
  all_goals
    go_enter Yba.func3, Yba.ntmps3
    go_wp2_with (go_at_call 4; refine (new4 _ _).mono ?_; rintro e wn ⟨v, ob, rfl, hwn⟩)
    refine (unread_none w.heap.size w.heap.size blocks start count crc _ _ ?hB (Nat.le_refl _) hws).mono ?_
    case hB => first | (rw [← HWB.out] at hbox0; exact hbox0) | (rw [← HWB.out] at hbox0; exact hbox0.block (Below.heap_alloc _ _ _ hbox0.lt))
    rintro e W1 ⟨rfl, bm, hbox, hmb, hbel1⟩
    have hbel : Below w.heap.size w W1 := by
      rw [← HWB.out] at hbel0
      first | exact hbel0.trans hbel1 | exact ((hbel0.alloc hbel0.size _).trans hbel1)
    clear hbel0 hbel1 hbox0
    try clear hwn
    have hget := hmb.get hws
    rw [Pl.upd_same] at hget
    have hget' : (Instr.lookup 42 (.map (some bm)) (.int .u64 start) false).run Yba.prog W1 = .ok (.bool true) W1 := hget
    clear hget
    obtain ⟨D, hown, _, _, hsD⟩ := hmb
    have HSD : Hid (size D = 1) := hsD
    clear hsD
    obtain ⟨d0, d1, d2, d3, d5, d11, d12, d13⟩ := hbox.cells
    have f3 := hbox.free 3
    go_wp2_with (at_len; refine wpList_len_own _ rfl _ 42 rfl 22 4 Yba.underlying42 _ bm 1 D rfl hown ?_; rw [HSD.out])
    refine (try_free ⟨w.heap.size, 3, none⟩ _ d3 f3).mono ?_
    rintro e wt ⟨rfl, hwt⟩
    have hboxt : Box wt w.heap.size blocks 1 (some bm) := by rw [hwt]; exact hbox.lock 1
    have hbelt : Below w.heap.size w wt := by rw [hwt]; exact hbel.setCell (p := ⟨w.heap.size, 3, none⟩) (Nat.le_refl _) _
    clear hwt
    go_wp2_with fail
    refine (unlock_held Yba.muLib ⟨w.heap.size, 3, none⟩ wt (hboxt.cells.2.2.2.1) (hboxt.free 3)).mono ?_
    rintro e wu ⟨rfl, hwu⟩
    have hbelu : Below w.heap.size w wu := by rw [hwu]; exact hbelt.setCell (p := ⟨w.heap.size, 3, none⟩) (Nat.le_refl _) _
    clear hwu
    go_wp2
    go_ret
    exact ⟨rfl, hbelu⟩

set_option maxRecDepth 100000 in
set_option maxHeartbeats 4000000 in
/-- No key, whatever the address. -/
theorem noKey (start count crc blocks : Int) (ak : Option Addr) (ck : Nat) (av : Option Addr) (lv cv : Nat) (withErr : Bool) (w : World) (hws : (Lit.int .u64 start).wf = true) :
    Calls Yba.prog 3 #[.int .u64 start, .int .u64 count, .int .u32 crc, .int .u64 blocks, .slice ak 0 ck, .slice av lv cv, .bool false, .bool withErr] w fun e w' => e = .returned (.bool true) ∧ Below w.heap.size w w' := by
  have q42 : ∀ (w : World) (r : Option Nat), (binOp .eql 42 (.map r) (.map none)).run Yba.prog w = .ok (.bool r.isNone) w := fun w r => run_eql_map_nil w _ _ _ r Yba.underlying42
  have q35 : ∀ (w : World) (r : Option Nat), (binOp .neq 35 (.map r) (.map none)).run Yba.prog w = .ok (.bool (!r.isNone)) w := fun w r => run_neq_map_nil w _ _ _ r Yba.underlying35
  have q43 : ∀ (w : World) (r : Option Nat), (binOp .neq 43 (.map r) (.map none)).run Yba.prog w = .ok (.bool (!r.isNone)) w := fun w r => run_neq_map_nil w _ _ _ r Yba.underlying43
  have hmm := @run_makeMap Yba.prog
  have hbox0 := made_box w blocks
  have hmb0 := made_map w blocks
  have hbel0 := made_below w (.cells (boxCells blocks 0 (some (w.heap.size + 1))) 45) (.map #[] 0)
  obtain ⟨wb, hwb⟩ : ∃ wb, wb = (w.alloc (.cells (boxCells blocks 0 (some (w.heap.size + 1))) 45)).alloc (.map #[] 0) := ⟨_, rfl⟩
  rw [← hwb] at hbox0 hbel0 hmb0
  have HWB : Hid ((w.alloc (.cells (boxCells blocks 0 (some (w.heap.size + 1))) 45)).alloc (.map #[] 0) = wb) := hwb.symm
  clear hwb
  cases withErr
  all_goals
    go_enter Yba.func3, Yba.ntmps3
    go_wp2
    refine wp_loop_rounds 1 ?_
    rw [rounds_succ]
    go_wp2_with (go_at_call 4; refine (new4 _ _).mono ?_; rintro e wn ⟨v, ob, rfl, hwn⟩)
    refine (unread_some w.heap.size w.heap.size (w.heap.size + 1) 0 blocks start count crc _ (fun _ => none) 0 _ ?hB ?hM (Nat.le_refl _) (by omega) (by omega) (by unfold maxLen; omega) hws).mono ?_
    case hB => first | (rw [← HWB.out] at hbox0; exact hbox0) | (rw [← HWB.out] at hbox0; exact hbox0.block (Below.heap_alloc _ _ _ hbox0.lt))
    case hM => first | (rw [← HWB.out] at hmb0; exact hmb0) | (rw [← HWB.out] at hmb0; exact hmb0.alloc _)
    rintro e W1 ⟨rfl, hbox, hmb, hbel1⟩
    have hbel : Below w.heap.size w W1 := by
      rw [← HWB.out] at hbel0
      first | exact hbel0.trans hbel1 | exact ((hbel0.alloc hbel0.size _).trans hbel1)
    clear hbel0 hbel1 hbox0 hmb0
    try clear hwn
    have hget := hmb.get hws
    rw [Pl.upd_same] at hget
    have hget' : (Instr.lookup 42 (.map (some (w.heap.size + 1))) (.int .u64 start) false).run Yba.prog W1 = .ok (.bool true) W1 := hget
    clear hget
    obtain ⟨D, hown, _, _, hsD⟩ := hmb
    have HSD : Hid (size D = 1) := hsD
    clear hsD
    obtain ⟨d0, d1, d2, d3, d5, d11, d12, d13⟩ := hbox.cells
    have f3 := hbox.free 3
    go_wp2_with fail
    refine wp_loop_rounds 1 ?_
    rw [rounds_succ]
    go_wp2_with (at_len; refine wpList_len_own _ rfl _ 42 rfl 22 4 Yba.underlying42 _ (w.heap.size + 1) 1 D rfl hown ?_; rw [HSD.out])
    refine (try_free ⟨w.heap.size, 3, none⟩ _ d3 f3).mono ?_
    rintro e wt ⟨rfl, hwt⟩
    have hboxt : Box wt w.heap.size blocks 1 (some (w.heap.size + 1)) := by rw [hwt]; exact hbox.lock 1
    have hbelt : Below w.heap.size w wt := by rw [hwt]; exact hbel.setCell (p := ⟨w.heap.size, 3, none⟩) (Nat.le_refl _) _
    clear hwt
    go_wp2_with fail
    refine (unlock_held Yba.muLib ⟨w.heap.size, 3, none⟩ wt (hboxt.cells.2.2.2.1) (hboxt.free 3)).mono ?_
    rintro e wu ⟨rfl, hwu⟩
    have hbelu : Below w.heap.size w wu := by rw [hwu]; exact hbelt.setCell (p := ⟨w.heap.size, 3, none⟩) (Nat.le_refl _) _
    clear hwu
    go_wp2
    go_ret
    exact ⟨rfl, hbelu⟩

end Go.Proofs.Ybulkdzpq

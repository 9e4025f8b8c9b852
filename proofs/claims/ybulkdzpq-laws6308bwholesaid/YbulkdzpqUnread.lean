/-
  Seat b6308a: the contract of (*index).unreadable (5) on an index that salvages and whose lock is free.
-/
import Derived.Test.YbulkdzpqMap
import Derived.Test.YbulkdzpqLocks
import Derived.RegionTactic
import Derived.BigRegion
namespace Go.Proofs.Ybulkdzpq
open Go.RowKit Go.Maps Go.MuLone

theorem heap_new (w : World) (o : Obj) : (w.alloc o).heap[w.heap.size]? = some o := heap_alloc_new w o

/-- Behind the lock's store: the struct, the map, the boxed argument. -/
theorem locked {w w2 : World} {X : Nat} {blocks st st' : Int} {m : Option Nat} {o : Array Value} (hbox : Box w X blocks st m) (hw : w2 = (w.alloc (.cells o 53)).setCell ⟨X, 3, none⟩ (.int .i32 st')) :
    Box w2 X blocks st' m ∧ (∀ j, w2.cell? ⟨w.heap.size, j, none⟩ = o[j]?) ∧ w2.heap.size = w.heap.size + 1 ∧ (∀ b, b ≠ X → b < w.heap.size → w2.heap[b]? = w.heap[b]?) := by
  have hlt := hbox.lt
  subst hw
  refine ⟨(hbox.block (Below.heap_alloc w _ X hlt)).lock st', fun j => ?_, by simp, fun b hb hl => ?_⟩
  · have h1 := Below.heap_setCell (w.alloc (.cells o 53)) ⟨X, 3, none⟩ (.int .i32 st') w.heap.size (by simp; omega)
    rw [World.cell?_of_block (w := w.alloc (.cells o 53)) (a := ⟨w.heap.size, j, none⟩) h1]
    exact World.cell?_alloc_new w _ _ _
  · rw [Below.heap_setCell _ _ _ _ (by simpa using hb), Below.heap_alloc _ _ _ hl]

set_option maxHeartbeats 1600000 in
theorem unread_some (B X bm n : Nat) (blocks start count crc : Int) (err : Value) (f : Int → Option Bool) (s : Nat) (w : World) (hbox : Box w X blocks 0 (some bm)) (hm : MB w bm n f s) (hX : B ≤ X) (hbm : B ≤ bm) (hne : X ≠ bm)
    (hn : n < maxLen) (hk : (Lit.int .u64 start).wf = true) :
    Calls Yba.prog 5 #[.pointer (some ⟨X, 0, none⟩), .agg #[.int .u64 start, .int .u64 count, .int .u32 crc], err] w fun e w' => e = .returned (.tuple #[]) ∧
      Box w' X blocks 0 (some bm) ∧ MB w' bm (n + 1) (Pl.upd f start true) (Pl.bump f start s) ∧ Below B w w' := by
  have q42 : ∀ (w : World) (r : Option Nat), (binOp .eql 42 (.map r) (.map none)).run Yba.prog w = .ok (.bool r.isNone) w := fun w r => run_eql_map_nil w _ _ _ r Yba.underlying42
  obtain ⟨_, _, c2, c3, _⟩ := hbox.cells
  have f3 := hbox.free 3
  have hlt := hbox.lt
  go_enter_defers Yba.func5, Yba.ntmps5
  go_wp2_with fail
  refine (lock_free Yba.muLib ⟨X, 3, none⟩ _ ?_ ?_).mono ?_
  · rw [World.cell?_alloc_lt (a := ⟨X, 3, none⟩) (h := hlt)]; exact c3
  · rw [World.frozen?_of_block (w := w) (Below.heap_alloc w _ X hlt)]; exact f3
  rintro e w2 ⟨rfl, hw2⟩
  obtain ⟨hbox2, href, hsz, hold⟩ := locked hbox hw2
  have hm2 : MB w2 bm n f s := hm.block (hold bm (fun e => hne e.symm) hm.lt)
  have hbel : Below B w w2 := by rw [hw2]; exact ((Below.refl B w).alloc (by omega) _).setCell (by exact hX) _
  obtain ⟨d0, d1, d2, d3, _, _, d12, _⟩ := hbox2.cells
  have r0 := href 0
  simp at r0
  obtain ⟨w3, hrun, hm3, ht3⟩ := hm2.drew.put hn hk true
  clear hw2 href hold c2 c3
  have hbox2d : Box w2.drew X blocks 1 (some bm) := hbox2
  have hbox3 := hbox2d.turned ht3 hne
  have hbel3 : Below B w w3 := hbel.drew.trans (MB.below ht3 hbm (by show B ≤ w2.heap.size; omega))
  go_wp2_with fail
  go_region
  all_goals
    go_wp2
    refine leaves_cons (f := 8) (args := #[.pointer (some ⟨X, 3, none⟩)]) (by simp) (by simp [go_sem]) ?_
    refine (unlock_deferred Yba.muLib ⟨X, 3, none⟩ .returning _ (hbox3.cells.2.2.2.1) (hbox3.free 3)).mono ?_
    rintro e u' w4 ⟨rfl, rfl, rfl⟩
    exact ⟨_, results_none rfl _ _ _, rfl, hbox3.lock 0, hm3.setCell (a := ⟨X, 3, none⟩) (fun e => hne e.symm) _, hbel3.setCell (by exact hX) _⟩

set_option maxHeartbeats 1600000 in
theorem unread_none (B X : Nat) (blocks start count crc : Int) (err : Value) (w : World) (hbox : Box w X blocks 0 none) (hX : B ≤ X)
    (hk : (Lit.int .u64 start).wf = true) :
    Calls Yba.prog 5 #[.pointer (some ⟨X, 0, none⟩), .agg #[.int .u64 start, .int .u64 count, .int .u32 crc], err] w fun e w' => e = .returned (.tuple #[]) ∧
      ∃ bm, Box w' X blocks 0 (some bm) ∧ MB w' bm 1 (Pl.upd (fun _ => none) start true) 1 ∧ Below B w w' := by
  have q42 : ∀ (w : World) (r : Option Nat), (binOp .eql 42 (.map r) (.map none)).run Yba.prog w = .ok (.bool r.isNone) w := fun w r => run_eql_map_nil w _ _ _ r Yba.underlying42
  have hmm := @run_makeMap Yba.prog
  obtain ⟨_, _, c2, c3, _⟩ := hbox.cells
  have f3 := hbox.free 3
  have hlt := hbox.lt
  go_enter_defers Yba.func5, Yba.ntmps5
  go_wp2_with fail
  refine (lock_free Yba.muLib ⟨X, 3, none⟩ _ ?_ ?_).mono ?_
  · rw [World.cell?_alloc_lt (a := ⟨X, 3, none⟩) (h := hlt)]; exact c3
  · rw [World.frozen?_of_block (w := w) (Below.heap_alloc w _ X hlt)]; exact f3
  rintro e w2 ⟨rfl, hw2⟩
  obtain ⟨hbox2, href, hsz, hold⟩ := locked hbox hw2
  have hbel : Below B w w2 := by rw [hw2]; exact ((Below.refl B w).alloc (by omega) _).setCell (by exact hX) _
  obtain ⟨d0, d1, d2, d3, _, _, d12, _⟩ := hbox2.cells
  have f12 := hbox2.free 12
  have r0 := href 0
  simp at r0
  clear hw2 href hold c2 c3
  obtain ⟨W, hW⟩ : ∃ W, W = (w2.setCell ⟨X, 12, none⟩ (.map (some (w.heap.size + 1)))).alloc (Obj.map #[] 0) := ⟨_, rfl⟩
  have hs12 : (w2.setCell ⟨X, 12, none⟩ (.map (some (w.heap.size + 1)))).heap.size = w.heap.size + 1 := by simp [World.setCell, hsz]
  have hmW : MB W (w.heap.size + 1) 0 (fun _ => none) 0 := by have := MB.made (w2.setCell ⟨X, 12, none⟩ (.map (some (w.heap.size + 1)))); rw [hs12] at this; rw [hW]; exact this
  have hbW : Box W X blocks 1 (some (w.heap.size + 1)) := by rw [hW]; exact (hbox2.field _).block (Below.heap_alloc _ _ X (by rw [hs12]; omega))
  have hrW : W.cell? ⟨w.heap.size, 0, none⟩ = some (.int .u64 start) := by
    rw [hW, World.cell?_alloc_lt (a := ⟨w.heap.size, 0, none⟩) (h := by rw [hs12]; simp), World.cell?_of_block (w := w2) (a := ⟨w.heap.size, 0, none⟩) (Below.heap_setCell w2 ⟨X, 12, none⟩ _ w.heap.size (by simp; omega))]
    exact r0
  have hbelW : Below B w W := by rw [hW]; exact (hbel.setCell (p := ⟨X, 12, none⟩) hX _).alloc (by rw [hs12]; omega) _
  obtain ⟨w3, hrun, hm3, ht3⟩ := hmW.drew.put (by unfold maxLen; omega) hk true
  have hne : X ≠ w.heap.size + 1 := by omega
  have hbWd : Box W.drew X blocks 1 (some (w.heap.size + 1)) := hbW
  have hbox3 := hbWd.turned ht3 hne
  have hbel3 : Below B w w3 := hbelW.drew.trans (MB.below ht3 (by omega) (by show B ≤ W.heap.size; have := hbelW.size; omega))
  go_wp2_with fail
  rw [← hW]
  obtain ⟨e0, e1, e2, e3, _, _, e12, _⟩ := hbW.cells
  clear hW hs12 hbox2 d0 d1 d2 d3 d12 f12 r0 hbel hbelW
  go_region
  all_goals
    go_wp2
    refine leaves_cons (f := 8) (args := #[.pointer (some ⟨X, 3, none⟩)]) (by simp) (by simp [go_sem]) ?_
    refine (unlock_deferred Yba.muLib ⟨X, 3, none⟩ .returning _ (hbox3.cells.2.2.2.1) (hbox3.free 3)).mono ?_
    rintro e u' w4 ⟨rfl, rfl, rfl⟩
    exact ⟨_, results_none rfl _ _ _, rfl, _, hbox3.lock 0, hm3.setCell (a := ⟨X, 3, none⟩) (fun e => hne e.symm) _, hbel3.setCell (by exact hX) _⟩

end Go.Proofs.Ybulkdzpq

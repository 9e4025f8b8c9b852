/-
  Seat b6311a: the contract of (*Node).Repositories (5) on a node whose lock is free.
-/
import Derived.Test.YbulkdzrgLeaf
namespace Go.Proofs.Ybulkdzrg
open Go.RowKit Go.MuLone

/-- The node in block X: the lock's state, the bulletin's four fields. -/
def Nd (w : World) (X : Nat) (st key high ser : Int) (vr : Value) : Prop :=
  ∃ cs : Array Value, w.heap[X]? = some (.cells cs 98 (0, 0)) ∧ cs[37]? = some (.int .i32 st) ∧ cs[57]? = some (.int .u64 key) ∧ cs[58]? = some (.int .u64 high) ∧ cs[59]? = some (.int .u64 ser) ∧ cs[60]? = some vr

section
variable {w w' : World} {X : Nat} {st key high ser : Int} {vr : Value}
theorem Nd.lt (h : Nd w X st key high ser vr) : X < w.heap.size := by obtain ⟨cs, h, _⟩ := h; exact (Array.getElem?_eq_some_iff.1 h).1
theorem Nd.block (h : Nd w X st key high ser vr) (hb : w'.heap[X]? = w.heap[X]?) : Nd w' X st key high ser vr := by obtain ⟨cs, h1, h2⟩ := h; exact ⟨cs, hb.trans h1, h2⟩
theorem Nd.free (h : Nd w X st key high ser vr) (j : Nat) : w.frozen? ⟨X, j, none⟩ = false := by obtain ⟨cs, h1, _⟩ := h; simp [World.frozen?, h1]
theorem Nd.cells (h : Nd w X st key high ser vr) : w.cell? ⟨X, 37, none⟩ = some (.int .i32 st) ∧ w.cell? ⟨X, 57, none⟩ = some (.int .u64 key) ∧ w.cell? ⟨X, 58, none⟩ = some (.int .u64 high) ∧ w.cell? ⟨X, 59, none⟩ = some (.int .u64 ser) ∧ w.cell? ⟨X, 60, none⟩ = some vr := by
  obtain ⟨cs, h1, h2, h3, h4, h5, h6⟩ := h
  simp only [World.cell?, h1]
  exact ⟨h2, h3, h4, h5, h6⟩
theorem Nd.lock (h : Nd w X st key high ser vr) (st' : Int) : Nd (w.setCell ⟨X, 37, none⟩ (.int .i32 st')) X st' key high ser vr := by
  obtain ⟨cs, h1, h2, h3, h4, h5, h6⟩ := h
  have hlt : 37 < cs.size := (Array.getElem?_eq_some_iff.1 h2).1
  refine ⟨cs.setIfInBounds 37 (.int .i32 st'), by simp [World.setCell, Array.getElem?_modify, h1], ?_, ?_, ?_, ?_, ?_⟩ <;> rw [Array.getElem?_setIfInBounds]
  · simp [hlt]
  · simpa using h3
  · simpa using h4
  · simpa using h5
  · simpa using h6
end

set_option maxRecDepth 100000 in
set_option maxHeartbeats 1600000 in
theorem repo5 (B X M m cap : Nat) (key high ser : Int) (q : Nat → Int) (w : World) (hm : m ≤ 1048576) (hN : Nd w X 0 key high ser (.slice (some ⟨M, 0, none⟩) m cap)) (hl : LiesP w M m q) (hB : B ≤ X) :
    Calls Yba.prog 5 #[.pointer (some ⟨X, 0, none⟩)] w fun e w' => ∃ g c, e = .returned (.slice (some ⟨g, 0, none⟩) m c) ∧ w.heap.size ≤ g ∧ LiesP w' g m q ∧ LiesP w' M m q ∧ Nd w' X 0 key high ser (.slice (some ⟨M, 0, none⟩) m cap) ∧ Below B w w' := by
  have hne : M ≠ X := fun e => by
    obtain ⟨cs, h1, _⟩ := hN
    obtain ⟨cur, h2, _⟩ := hl
    rw [e, h1] at h2; cases h2
  have hXlt := hN.lt
  go_enter_defers Yba.func5, Yba.ntmps5
  go_wp2_with fail
  refine (lock_free Yba.muLib ⟨X, 37, none⟩ _ hN.cells.1 (hN.free 37)).mono ?_
  rintro e w2 ⟨rfl, hw2⟩
  have hN2 := hN.lock 1
  have hl2 := hl.block (Below.heap_setCell w ⟨X, 37, none⟩ (.int .i32 1) M (by simpa using hne))
  have hb2 : Below B w (w.setCell ⟨X, 37, none⟩ (.int .i32 1)) := (Below.refl B w).setCell (by exact hB) _
  have hs2 : (w.setCell ⟨X, 37, none⟩ (.int .i32 1)).heap.size = w.heap.size := by simp [World.setCell]
  rw [← hw2] at hN2 hl2 hb2 hs2
  clear hw2
  obtain ⟨d0, d1, d2, d3, d4⟩ := hN2.cells
  go_wp2_with (go_at_call 11; refine (clone11 M m cap q _ hm hl2).mono ?_; rintro e w3 ⟨g, c, rfl, hge, hl3, hb3⟩)
  have hN3 := hN2.block (hb3.block X (by omega))
  have hl3' := hl2.block (hb3.block M hl2.lt)
  have hMg : M ≠ g := by have := hl.lt; omega
  have hgX : g ≠ X := by omega
  refine leaves_cons (f := 9) (args := #[.pointer (some ⟨X, 37, none⟩)]) (by simp) (by simp [go_sem]) ?_
  refine (unlock_deferred Yba.muLib ⟨X, 37, none⟩ .returning _ hN3.cells.1 (hN3.free 37)).mono ?_
  rintro e u' w4 ⟨rfl, rfl, rfl⟩
  exact ⟨_, results_tmp rfl _ _ _, g, c, rfl, by omega, hl3.block (Below.heap_setCell _ _ _ _ (by simpa using hgX)), hl3'.block (Below.heap_setCell _ _ _ _ (by simpa using hne)), hN3.lock 0, (hb2.trans (hb3.mono (by omega))).setCell (by exact hB) _⟩

set_option maxRecDepth 100000 in
set_option maxHeartbeats 1600000 in
theorem repo5_nil (B X : Nat) (key high ser : Int) (w : World) (hN : Nd w X 0 key high ser (.slice none 0 0)) (hB : B ≤ X) :
    Calls Yba.prog 5 #[.pointer (some ⟨X, 0, none⟩)] w fun e w' => e = .returned (.slice none 0 0) ∧ Nd w' X 0 key high ser (.slice none 0 0) ∧ Below B w w' := by
  have hXlt := hN.lt
  go_enter_defers Yba.func5, Yba.ntmps5
  go_wp2_with fail
  refine (lock_free Yba.muLib ⟨X, 37, none⟩ _ hN.cells.1 (hN.free 37)).mono ?_
  rintro e w2 ⟨rfl, hw2⟩
  have hN2 := hN.lock 1
  have hb2 : Below B w (w.setCell ⟨X, 37, none⟩ (.int .i32 1)) := (Below.refl B w).setCell (by exact hB) _
  rw [← hw2] at hN2 hb2
  clear hw2
  obtain ⟨d0, d1, d2, d3, d4⟩ := hN2.cells
  go_wp2_with (go_at_call 11; refine (clone11_nil _).mono ?_; rintro e w3 ⟨rfl, hw3⟩; have hw3' := hw3.symm; subst hw3')
  refine leaves_cons (f := 9) (args := #[.pointer (some ⟨X, 37, none⟩)]) (by simp) (by simp [go_sem]) ?_
  refine (unlock_deferred Yba.muLib ⟨X, 37, none⟩ .returning _ hN2.cells.1 (hN2.free 37)).mono ?_
  rintro e u' w4 ⟨rfl, rfl, rfl⟩
  exact ⟨_, results_tmp rfl _ _ _, rfl, hN2.lock 0, hb2.setCell (by exact hB) _⟩

end Go.Proofs.Ybulkdzrg

/-
  Seat b6307a: small laws on worlds for the law's walk.
-/
import Derived.Test.YbulkdzpcQuote
import Derived.Laws.CopyOwn
namespace Go.Proofs.Ybulkdzpc
open Go.RowKit

theorem addp (b o j : Nat) : (⟨b, o, none⟩ : Addr).add j = ⟨b, o + j, none⟩ := by unfold Addr.add; split <;> simp_all

/-- A row that the call made, as long as its capacity: its whole block. -/
theorem owns_full {w : World} {base g n : Nat} {xs : List Value} (h : w.ownsRow base 5 1 (.slice (some ⟨g, 0, none⟩) n n) n xs) : w.heap[g]? = some (.cells xs.toArray 5 (0, 0)) ∧ xs.length = n := by
  obtain ⟨h1, h2⟩ := h
  refine ⟨?_, by simpa using h1⟩
  rcases h2 with ⟨h2, _⟩ | ⟨g', cap, cur, hv, _, hh, _, _, hs, ht⟩
  · cases h2
  · injection hv with e1 e2 e3
    injection e1 with e1
    injection e1 with e1
    subst e1; subst e3
    have : cur.toList = xs := by rw [← ht]; exact (List.take_of_length_le (by simp [hs])).symm
    rw [hh, ← this]

theorem splice_all {α : Type} (L cs : List α) (h : L.length = cs.length) : splice L 0 cs = cs := by
  simp [splice, h]

/-- The octets of a block that is known whole. -/
theorem lies_block {w : World} {g n : Nat} {zs : List Int} (hz : zs.length = n) (h : w.heap[g]? = some (.cells (zs.map (Value.int .u8)).toArray 5 (0, 0))) : Lies w (some ⟨g, 0, none⟩) n zs := by
  refine ⟨hz, .inr ⟨g, 0, rfl, fun i hi => ?_⟩⟩
  have hi' : i < zs.length := by omega
  simp [World.cell?, h, List.getD, hi']

theorem lies_cell {w : World} {g n : Nat} {zs : List Int} (h : Lies w (some ⟨g, 0, none⟩) n zs) : ∀ i, i < n → w.cell? ⟨g, i, none⟩ = some (.int .u8 (zs.getD i 0)) := by
  obtain ⟨_, h0 | ⟨b, o, hp, hc⟩⟩ := h
  · intro i hi; omega
  · intro i hi
    injection hp with hp
    injection hp with e1 e2
    subst e1; subst e2
    simpa using hc i hi

theorem lies_below {w w' : World} {p : Option Addr} {n : Nat} {zs : List Int} (h : Lies w p n zs) {B : Nat} (hb : Below B w w') (hB : w.heap.size ≤ B) : Lies w' p n zs := by
  obtain ⟨hz, h0 | ⟨b, o, rfl, hc⟩⟩ := h
  · exact ⟨hz, .inl h0⟩
  · refine ⟨hz, .inr ⟨b, o, rfl, fun i hi => ?_⟩⟩
    have hlt := World.block_lt_of_cell? w _ (hc i hi)
    exact (hb.cell (p := ⟨b, o + i, none⟩) (Nat.lt_of_lt_of_le hlt hB)).trans (hc i hi)

/-- What a copy from octets that lie so asks. -/
theorem lies_src {w : World} {p : Option Addr} {n g : Nat} {zs : List Int} (h : Lies w p n zs) :
    0 < (zs.map (Value.int .u8)).length → some (⟨g, 0, none⟩ : Addr) = some ⟨g, 0, none⟩ ∧ ∃ ad, p = some ad ∧ ∀ (j : Nat) v, (zs.map (Value.int .u8))[j]? = some v → w.cell? (ad.add j) = some v := by
  intro hp
  obtain ⟨hz, h0 | ⟨b, o, rfl, hc⟩⟩ := h
  · simp at hp; omega
  · refine ⟨rfl, _, rfl, fun j v hj => ?_⟩
    simp [List.getElem?_map] at hj
    obtain ⟨a, ha, rfl⟩ := hj
    have hjl : j < n := by have := (List.getElem?_eq_some_iff.1 ha).1; omega
    rw [addp b o j, hc j hjl]
    simp [List.getD, ha]

/-- A row of at least one octet that the call owns: its shape, and where its octets lie. -/
theorem owns_shape {w : World} {base : Nat} {v : Value} {n : Nat} {zs : List Int} (h : w.ownsRow base 5 1 v n (zs.map (Value.int .u8))) (hn : 0 < n) : ∃ g cap, v = .slice (some ⟨g, 0, none⟩) n cap ∧ Lies w (some ⟨g, 0, none⟩) n zs := by
  have hc := fun g => @World.ownsRow.cells w base 5 1 v n _ h g
  obtain ⟨h1, h2⟩ := h
  rcases h2 with ⟨_, h2⟩ | ⟨g, cap, cur, hv, _⟩
  · omega
  · refine ⟨g, cap, hv, by simpa using h1, .inr ⟨g, 0, rfl, fun i hi => ?_⟩⟩
    subst hv
    have hi' : i < zs.length := by simp at h1; omega
    have := hc g rfl i (.int .u8 (zs.getD i 0)) (by simp [List.getD, hi'])
    rw [add0] at this
    simpa using this

/-- Behind 'make([]byte, n)'. -/
theorem made_row {w w1 : World} {n : Nat} {xs : List Value} (ho : w1.ownsRow w.heap.size 5 1 (.slice (some ⟨w.heap.size, 0, none⟩) n n) n xs) (hg : w.grownBy w1 none) :
    Hid (w1.heap[w.heap.size]? = some (.cells xs.toArray 5 (0, 0))) ∧ xs.length = n ∧ Below w.heap.size w w1 :=
  ⟨(owns_full ho).1, (owns_full ho).2, (Below.refl _ _).grown hg (Nat.le_refl _) (fun k h => by cases h)⟩

/-- Behind 'copy' over the whole of such a row. -/
theorem copied_row {w w1 w2 : World} {n : Nat} {cur : List Value} {zs : List Int} (hz : zs.length = n) (hn : cur.length = n)
    (H : Hid (w2.heap[w.heap.size]? = some (.cells (splice cur 0 (zs.map (Value.int .u8))).toArray 5 (0, 0)))) (h1 : Below w.heap.size w w1) (h2 : Below w.heap.size w1 w2) :
    Lies w2 (some ⟨w.heap.size, 0, none⟩) n zs ∧ Below w.heap.size w w2 := by
  have e := H.out
  rw [splice_all _ _ (by simp [hz, hn])] at e
  exact ⟨lies_block hz e, h1.trans h2⟩

theorem lies_news {w : World} {g n : Nat} {zs : List Int} (h : Lies w (some ⟨g, 0, none⟩) n zs) : ∀ (j : Nat) u, (zs.map (Value.int .u8))[j]? = some u → w.cell? ((⟨g, 0, none⟩ : Addr).add j) = some u := by
  intro j u hj
  have hc := lies_cell h
  simp [List.getElem?_map] at hj
  obtain ⟨a, ha, rfl⟩ := hj
  have hjl : j < n := by have := (List.getElem?_eq_some_iff.1 ha).1; have := h.1; omega
  rw [add0, hc j hjl]
  simp [List.getD, ha]

end Go.Proofs.Ybulkdzpc

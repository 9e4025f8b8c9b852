/-
  Seat b6310aF: what the row's arguments hold, opened for the walk; slices too long for the model.
-/
import Derived.Test.YbulkdzqsFmtPre
import Derived.Deep.Slices
import Derived.Deep.Strs
import Derived.ProofKit
import Derived.ChangeSlices
namespace Go.Proofs.YbulkdzqsFmt
open Go.ChangeShapes Go.WideShapes Go.ChangeAt Go.RowKit Go.Maps

theorem addp (b o j : Nat) : (⟨b, o, none⟩ : Addr).add j = ⟨b, o + j, none⟩ := by unfold Addr.add; split <;> simp_all
theorem cells27 : Ybaf.prog.cellsOf 27 = 3 := by kernel_rfl
theorem cells5 : Ybaf.prog.cellsOf 5 = 1 := by kernel_rfl
theorem u8_nat {n : Int} (h : (Lit.int .u8 n).wf = true) : ∃ k : Nat, n = (k : Int) ∧ k < 256 := by
  have h1 : IntKind.u8.min = 0 := rfl
  have h2 : IntKind.u8.max = 255 := rfl
  simp only [Lit.wf, Bool.and_eq_true, decide_eq_true_eq] at h
  exact ⟨n.toNat, by omega, by omega⟩

/-- One grant. -/
theorem grant_at {H : Type} {enc : TypeId × Value → H} {w : World} {base : Nat} {spare : Nat → Bool} {held : Bool} {n : Nat} {a : Addr} {cs : List Value} {x : DataW H × List MemPlace}
    (hc : w.cells? base a 3 = some cs) (h : DataW.trod enc Ybaf.prog w base spare held n 27 cs = some x) :
    ∃ r s p : Nat, (r < 256 ∧ s < 256 ∧ p < 256) ∧ w.cell? (a.add 0) = some (.int .u8 (r : Nat)) ∧ w.cell? (a.add 1) = some (.int .u8 (s : Nat)) ∧ w.cell? (a.add 2) = some (.int .u8 (p : Nat)) := by
  obtain ⟨_, hl, hcc⟩ := World.cells?_some hc
  obtain ⟨y0, y1, y2, k, _, _, h0, h1, h2⟩ := Go.Deep.trod_struct3 Ybaf.underlying27 h
  match cs, hl with
  | [v0, v1, v2], _ =>
    rw [cells5] at h0 h1 h2
    obtain ⟨n0, e0, _, w0⟩ := DataW.trod_int Ybaf.underlying5 h0
    obtain ⟨n1, e1, _, w1⟩ := DataW.trod_int Ybaf.underlying5 h1
    obtain ⟨n2, e2, _, w2⟩ := DataW.trod_int Ybaf.underlying5 h2
    simp at e0 e1 e2
    subst e0 e1 e2
    obtain ⟨r, rfl, hr⟩ := u8_nat w0
    obtain ⟨s, rfl, hs⟩ := u8_nat w1
    obtain ⟨p, rfl, hp⟩ := u8_nat w2
    exact ⟨r, s, p, ⟨hr, hs, hp⟩, (hcc 0 (by omega)), (hcc 1 (by omega)), (hcc 2 (by omega))⟩

/-- The slice of grants. -/
theorem grants_of {H : Type} {enc : TypeId × Value → H} {w : World} {base : Nat} {spare : Nat → Bool} {held : Bool} {fuel : Nat} {a : Option Addr} {len cap : Nat} {x : DataW H × List MemPlace}
    (h : DataW.trod enc Ybaf.prog w base spare held fuel 22 [.slice a len cap] = some x) :
    ∃ r s p : Nat → Nat, LiesG w a len r s p ∧ (∀ i, r i < 256) ∧ (∀ i, s i < 256) ∧ (∀ i, p i < 256) ∧ len ≤ maxLen := by
  rcases Go.Deep.open_slice Ybaf.underlying22 h with ⟨hcs, _⟩ | ⟨ad, l, c, m, n, D, Pl, hcs, _, hl, hm, hmm, _, hx⟩
  · cases hcs
    exact ⟨fun _ => 0, fun _ => 0, fun _ => 0, .inl rfl, fun _ => (by decide : 0 < 256), fun _ => (by decide : 0 < 256), fun _ => (by decide : 0 < 256), Nat.zero_le _⟩
  · cases hcs
    rw [cells27] at hx
    have hlm : len ≤ m := by rw [hmm]; split <;> omega
    have hall : ∀ i, ∃ t : Nat × Nat × Nat, (t.1 < 256 ∧ t.2.1 < 256 ∧ t.2.2 < 256) ∧ (i < len → w.cell? ((ad.add (i * 3)).add 0) = some (.int .u8 (t.1 : Nat)) ∧ w.cell? ((ad.add (i * 3)).add 1) = some (.int .u8 (t.2.1 : Nat)) ∧ w.cell? ((ad.add (i * 3)).add 2) = some (.int .u8 (t.2.2 : Nat))) := fun i => by
      by_cases hi : i < len
      · obtain ⟨cs', h1, h2⟩ := hx i (by omega)
        obtain ⟨r, s, p, hb, h3⟩ := grant_at h1 h2
        exact ⟨(r, s, p), hb, fun _ => h3⟩
      · exact ⟨(0, 0, 0), ⟨by decide, by decide, by decide⟩, fun h => absurd h hi⟩
    obtain ⟨f, hf⟩ := Classical.skolem.1 hall
    refine ⟨fun i => (f i).1, fun i => (f i).2.1, fun i => (f i).2.2, ?_, fun i => (hf i).1.1, fun i => (hf i).1.2.1, fun i => (hf i).1.2.2, by omega⟩
    rcases Nat.eq_zero_or_pos len with h0 | h0
    · exact .inl h0
    · obtain ⟨b, o, spot⟩ := ad
      have hspot : spot = none := by
        have := World.cell?_spot ((hf 0).2 h0).1
        simpa [Addr.add] using this
      subst hspot
      refine .inr ⟨b, o, rfl, fun i hi => ?_⟩
      have := (hf i).2 hi
      rw [addp, addp, addp, addp] at this
      exact this

/-- The slice of octets. -/
theorem octs_of {H : Type} {enc : TypeId × Value → H} {w : World} {base : Nat} {spare : Nat → Bool} {held : Bool} {fuel : Nat} {a : Option Addr} {len cap : Nat} {x : DataW H × List MemPlace}
    (h : DataW.trod enc Ybaf.prog w base spare held fuel 23 [.slice a len cap] = some x) : ∃ q : Nat → Nat, LiesB w a len q ∧ (∀ i, q i < 256) ∧ len ≤ maxLen := by
  rcases Go.Deep.open_slice1 Ybaf.underlying23 cells5 h with ⟨hcs, _⟩ | ⟨ad, l, c, m, n, V, D, Pl, hcs, _, hl, hm, hmm, _, hx⟩
  · cases hcs
    exact ⟨fun _ => 0, .inl rfl, fun _ => (by decide : 0 < 256), Nat.zero_le _⟩
  · cases hcs
    have hlm : len ≤ m := by rw [hmm]; split <;> omega
    have hall : ∀ i, ∃ t : Nat, t < 256 ∧ (i < len → w.cell? (ad.add i) = some (.int .u8 (t : Nat))) := fun i => by
      by_cases hi : i < len
      · obtain ⟨h1, h2⟩ := hx i (by omega)
        obtain ⟨n0, e0, _, w0⟩ := DataW.trod_int Ybaf.underlying5 h2
        simp at e0
        rw [e0] at h1
        obtain ⟨r, rfl, hr⟩ := u8_nat w0
        exact ⟨r, hr, fun _ => h1⟩
      · exact ⟨0, by decide, fun h => absurd h hi⟩
    obtain ⟨f, hf⟩ := Classical.skolem.1 hall
    refine ⟨f, ?_, fun i => (hf i).1, by omega⟩
    rcases Nat.eq_zero_or_pos len with h0 | h0
    · exact .inl h0
    · obtain ⟨b, o, spot⟩ := ad
      have hspot : spot = none := by
        have := World.cell?_spot ((hf 0).2 h0)
        simpa [Addr.add] using this
      subst hspot
      refine .inr ⟨b, o, rfl, fun i hi => ?_⟩
      have := (hf i).2 hi
      rw [addp] at this
      exact this

set_option maxRecDepth 100000 in
/-- Either slice is too long: true at once. -/
theorem long (a0 : Option Addr) (n cap0 : Nat) (subj : ByteArray) (a2 : Option Addr) (m cap2 : Nat) (x : Value) (w : World) (hn : n ≤ maxLen) (hm : m ≤ maxLen) (h : 1024 < n ∨ 1024 < m) :
    Calls Ybaf.prog 3 #[.slice a0 n cap0, .string subj, .slice a2 m cap2, x] w fun e w' => e = .returned (.bool true) ∧ Below w.heap.size w w' := by
  unfold maxLen at hn hm
  by_cases h1 : 1024 < n
  · have h1' : (1024 : Int) < (n : Int) := by omega
    go_enter Ybaf.func3, Ybaf.ntmps3
    go_wp2
    go_ret
    exact ⟨rfl, Below.refl _ _⟩
  · have h1' : ¬ (1024 : Int) < (n : Int) := by omega
    have h2' : (1024 : Int) < (m : Int) := by omega
    go_enter Ybaf.func3, Ybaf.ntmps3
    go_wp2
    go_ret
    exact ⟨rfl, Below.refl _ _⟩

end Go.Proofs.YbulkdzqsFmt

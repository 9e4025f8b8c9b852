/-
  Seat b6308a: the proof of 'Rows.LawS6308BWholeSaid'. The frame is after the skeleton tool's, with a slice of bools (Derived.Deep.Grids) beside a slice of integers; the walks are YbulkdzpqWalk's and YbulkdzpqEdge's.
-/
import Derived.Test.YbulkdzpqEdge
import Derived.WalkKit
import Derived.ProofKit
import Derived.OpenShut
import Derived.ShutString
import Derived.ChangeOld
import Derived.Below
import Derived.Deep.Grids
namespace Go.Proofs.Ybulkdzpq.lawS6308BWhole
open Go.ChangeShapes Go.WideShapes Go.ChangeAt Go.RowKit
set_option linter.unusedVariables false

theorem own : ownKnob Yba.prog.godebug = none := by kernel_rfl
theorem laidOut : laidOutB Yba.prog = true := by kernel_rfl

theorem addp (b o j : Nat) : (⟨b, o, none⟩ : Addr).add j = ⟨b, o + j, none⟩ := by unfold Addr.add; split <;> simp_all

/-- What the walk is told of the keys. -/
def Keys (w : World) (a : Option Addr) (len : Nat) (zs : List Int) : Prop :=
  len ≤ 9223372036854775807 ∧ (∀ i, (Lit.int .u64 (keyF zs i)).wf = true) ∧
  (len = 0 ∨ ∃ b o, a = some ⟨b, o, none⟩ ∧ b < w.heap.size ∧ ∀ i, i < len → w.cell? ⟨b, o + i, none⟩ = some (.int .u64 (keyF zs i)))

theorem keys_nil (w : World) : Keys w none 0 [] := ⟨by omega, fun i => by simp [keyF, Lit.wf]; decide, .inl rfl⟩
theorem keys_some {w : World} {x : Addr} {len cap : Nat} {zs : List Int} (hl : len ≤ cap) (hm : cap ≤ maxLen) (hz : zs.length = cap) (hc : ∀ i, i < zs.length → w.cell? (x.add i) = some (.int .u64 (zs.getD i 0))) (hw : ∀ n ∈ zs, (Lit.int .u64 n).wf = true) : Keys w (some x) len zs := by
  unfold maxLen at hm
  refine ⟨by omega, fun i => ?_, ?_⟩
  · unfold keyF
    rcases Nat.lt_or_ge i zs.length with h | h
    · rw [List.getD_eq_getElem?_getD, List.getElem?_eq_getElem h]
      exact hw _ (List.getElem_mem h)
    · rw [List.getD_eq_getElem?_getD, List.getElem?_eq_none h]; decide
  · rcases Nat.eq_zero_or_pos len with h0 | h0
    · exact .inl h0
    · obtain ⟨b, o, spot⟩ := x
      have h1 := hc 0 (by omega)
      have hspot : spot = none := by simpa [Addr.add] using World.cell?_spot h1
      subst hspot
      rw [addp] at h1
      refine .inr ⟨b, o, rfl, World.block_lt_of_cell? w _ h1, fun i hi => ?_⟩
      have h2 := hc i (by omega)
      rw [addp] at h2
      exact h2

theorem vals_some {w : World} {x : Addr} {len cap : Nat} {B : Nat → Bool} (hl : len ≤ cap) (hc : ∀ i, i < cap → w.cell? (x.add i) = some (.bool (B i))) : Vals w (some x) len ((List.range cap).map B) := by
  rcases Nat.eq_zero_or_pos len with h0 | h0
  · exact .inl h0
  · obtain ⟨b, o, spot⟩ := x
    have hspot : spot = none := by simpa [Addr.add] using World.cell?_spot (hc 0 (by omega))
    subst hspot
    refine .inr ⟨b, o, rfl, fun i hi => ?_⟩
    have h2 := hc i (by omega)
    rw [addp] at h2
    rw [h2]
    have hi' : i < cap := by omega
    simp [List.getD, hi']

theorem walk (start count crc blocks : Int) (ak : Option Addr) (lk ck : Nat) (zs : List Int) (av : Option Addr) (lv cv : Nat) (bs : List Bool) (mapNil withErr : Bool) (w : World)
    (hws : (Lit.int .u64 start).wf = true) (hk : Keys w ak lk zs) (hlv : lv ≤ 9223372036854775807) (hv : Vals w av lv bs) :
    Calls Yba.prog 3 #[.int .u64 start, .int .u64 count, .int .u32 crc, .int .u64 blocks, .slice ak lk ck, .slice av lv cv, .bool mapNil, .bool withErr] w fun e w' => e = .returned (.bool true) ∧ Below w.heap.size w w' := by
  obtain ⟨hl, hw, hk⟩ := hk
  rcases Nat.lt_or_ge 4096 lk with h | h
  · exact long start count crc blocks ak lk ck av lv cv mapNil withErr w hl h
  · cases mapNil with
    | true => exact nilMap start count crc blocks ak lk ck av lv cv withErr w h hws
    | false =>
      rcases hk with h0 | ⟨b, o, rfl, hb, hc⟩
      · subst h0
        exact noKey start count crc blocks ak ck av lv cv withErr w hws
      · exact keyed start count crc blocks b o lk ck zs av lv cv bs withErr w h hlv hws hw hb hc hv

set_option maxRecDepth 100000 in
theorem lifted (os : Os) (started : os.Started) (H : Type) (enc : TypeId × Value → H) :
    ReturnsInHanded {} Yba.checked os 3 .any (Rows.lawS6308BWholeSpec.pre6 enc Yba.prog Yba.f3 Rows.lawS6308BWholeRow.domain false) (Rows.lawS6308BWholeSpec.post enc Yba.prog Yba.f3 false true false false) := by
  refine returnsInHanded_of_change (C := Yba.checked) own started (by kernel_rfl) Yba.func3
    (ChangeSpec.witness6 (enc := enc) (C := Yba.checked) false ⟨#[], #[.int .u64 0, .int .u64 0, .int .u32 0, .int .u64 0, .slice none 0 0, .slice none 0 0, .bool false, .bool false], []⟩ 8 (by kernel_rfl) (by kernel_rfl) (by kernel_rfl) (by kernel_rfl)) ?_
  intro W base args ds gs before hval0 hW hcnd _
  have hval : ∀ (j : Nat) t v, Yba.f3.params[j]? = some t → args[j]? = some v → Value.okWide Yba.prog W .any base t v := hval0
  have hW' := hW
  obtain ⟨p, q, hA0, hV, rfl, hfz, hnd⟩ := hW
  have hA : DataW.TrodAll enc Yba.prog W 0 (fun _ => true) true Yba.f3.params.toList args.toList ds p := hA0
  rw [Yba.params3] at hA hval
  obtain ⟨v0, vs0, d0, ds0, p0, q0, hargs, rfl, rfl, h0, r0⟩ := trodAll_cons hA
  obtain ⟨v1, vs1, d1, ds1, p1, q1, rfl, rfl, rfl, h1, r1⟩ := trodAll_cons r0
  obtain ⟨v2, vs2, d2, ds2, p2, q2, rfl, rfl, rfl, h2, r2⟩ := trodAll_cons r1
  obtain ⟨v3, vs3, d3, ds3, p3, q3, rfl, rfl, rfl, h3, r3⟩ := trodAll_cons r2
  obtain ⟨v4, vs4, d4, ds4, p4, q4, rfl, rfl, rfl, h4, r4⟩ := trodAll_cons r3
  obtain ⟨v5, vs5, d5, ds5, p5, q5, rfl, rfl, rfl, h5, r5⟩ := trodAll_cons r4
  obtain ⟨v6, vs6, d6, ds6, p6, q6, rfl, rfl, rfl, h6, r6⟩ := trodAll_cons r5
  obtain ⟨v7, vs7, d7, ds7, p7, q7, rfl, rfl, rfl, h7, r7⟩ := trodAll_cons r6
  obtain ⟨rfl, rfl, rfl⟩ := trodAll_nil r7
  obtain rfl : args = #[v0, v1, v2, v3, v4, v5, v6, v7] := by cases args; simp_all
  obtain ⟨rfl, rfl⟩ := trodVars_none hV
  obtain ⟨a0, rfl, rfl, rfl, w0⟩ := open_int Yba.underlying22 (hval 0 22 v0 rfl rfl) h0
  obtain ⟨a1, rfl, rfl, rfl, w1⟩ := open_int Yba.underlying22 (hval 1 22 v1 rfl rfl) h1
  obtain ⟨a2, rfl, rfl, rfl, w2⟩ := open_int Yba.underlying23 (hval 2 23 v2 rfl rfl) h2
  obtain ⟨a3, rfl, rfl, rfl, w3⟩ := open_int Yba.underlying22 (hval 3 22 v3 rfl rfl) h3
  obtain ⟨a4, len4, cap4, rfl⟩ := okWide_slice Yba.underlying24 (hval 4 24 v4 rfl rfl)
  have k4 := h4
  have lt4 : ∀ x ∈ p4, x.block < W.heap.size := by obtain ⟨m, hm⟩ := k4; exact DataW.trod_lt m _ _ _ hm
  obtain ⟨z4, w4⟩ : ∃ zs, Keys W a4 len4 zs := by
    obtain ⟨fuel, hf⟩ := h4
    rcases open_ints Yba.underlying24 Yba.underlying22 (by kernel_rfl) hf with ⟨hcs, _⟩ | ⟨x, l, c, zs, hcs, _, hl, hm, hz, _, hcell, hwz⟩
    · simp [Value.cells] at hcs
      obtain ⟨rfl, rfl, rfl⟩ := hcs
      exact ⟨[], keys_nil W⟩
    · simp [Value.cells] at hcs
      obtain ⟨rfl, rfl, rfl⟩ := hcs
      exact ⟨zs, keys_some hl hm (by simpa using hz) hcell hwz⟩
  obtain ⟨a5, len5, cap5, rfl⟩ := okWide_slice Yba.underlying25 (hval 5 25 v5 rfl rfl)
  have k5 := h5
  have lt5 : ∀ x ∈ p5, x.block < W.heap.size := by obtain ⟨m, hm⟩ := k5; exact DataW.trod_lt m _ _ _ hm
  obtain ⟨z5, w5, w5'⟩ : ∃ bs, Vals W a5 len5 bs ∧ len5 ≤ 9223372036854775807 := by
    obtain ⟨fuel, hf⟩ := h5
    rcases Go.Deep.open_bools Yba.underlying25 Yba.underlying4 (by kernel_rfl) hf with ⟨hcs, _⟩ | ⟨x, l, c, B, hcs, _, hl, hm, _, hcell⟩
    · simp [Value.cells] at hcs
      obtain ⟨rfl, rfl, rfl⟩ := hcs
      exact ⟨[], .inl rfl, by omega⟩
    · simp [Value.cells] at hcs
      obtain ⟨rfl, rfl, rfl⟩ := hcs
      exact ⟨_, vals_some hl hcell, by unfold maxLen at hm; omega⟩
  obtain ⟨a6, rfl, rfl, rfl⟩ := open_bool Yba.underlying4 (hval 6 4 v6 rfl rfl) h6
  obtain ⟨a7, rfl, rfl, rfl⟩ := open_bool Yba.underlying4 (hval 7 4 v7 rfl rfl) h7
  clear hA0 hval0
  refine (walk a0 a1 a2 a3 a4 len4 cap4 z4 a5 len5 cap5 z5 a6 a7 W w0 w4 w5' w5).mono fun e W' ⟨he, bel⟩ => ?_
  subst he
  exact ⟨_, rfl, _, _, _, [], _, [], hW', trodAll_mk1 (shut_bool Yba.underlying4 _), (trodAll_cons_mk (shut_int Yba.underlying22 w0) (trodAll_cons_mk (shut_int Yba.underlying22 w1) (trodAll_cons_mk (shut_int Yba.underlying23 w2) (trodAll_cons_mk (shut_int Yba.underlying22 w3) (trodAll_cons_mk (Below.trod laidOut (by kernel_rfl) (of_decide_eq_true (by kernel_rfl)) k4 bel lt4) (trodAll_cons_mk (Below.trod laidOut (by kernel_rfl) (of_decide_eq_true (by kernel_rfl)) k5 bel lt5) (trodAll_cons_mk (shut_bool Yba.underlying4 _) (trodAll_cons_mk (shut_bool Yba.underlying4 _) trodAll_mk0)))))))), rfl, bel.frame _, fun h => by cases h⟩

theorem over : Rows.lawS6308BWholeRow.holds Yba.pinned (OpenSpec.ofChange Rows.lawS6308BWholeSpec) :=
  OpenClaim.holds_of_wide 3 Yba.f3 rfl rfl rfl rfl rfl rfl rfl ⟨rfl, rfl, rfl, rfl, rfl⟩ rfl rfl rfl rfl rfl (by kernel_rfl) Yba.func3 (by kernel_rfl)
    (of_decide_eq_true (by kernel_rfl)) (by unfold Func.isWrapper; first | (rw [if_pos (by decide +kernel)]; kernel_rfl) | (rw [if_neg (by decide +kernel)]; exact ⟨rfl, rfl⟩))
    (fun os started H enc _ => lifted os started H enc)

/-- THE STATEMENT -/
theorem proved : Rows.LawS6308BWholeSaid := over
#print axioms proved
end Go.Proofs.Ybulkdzpq.lawS6308BWhole

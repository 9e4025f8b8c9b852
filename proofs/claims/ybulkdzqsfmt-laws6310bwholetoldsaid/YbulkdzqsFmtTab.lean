/-
  Seat b6310aF: the table in memory, and the contracts of (*RoleTable).grants (12) and (*RoleTable).Permissions (8).
-/
import Derived.Test.YbulkdzqsFmtLeaf
import Derived.RegionTactic
import Derived.BigRegion
namespace Go.Proofs.YbulkdzqsFmt
open Go.RowKit Go.Maps

def mkM (m : Nat) : Value := .int .i64 (m : Nat)
def mkP (m : Nat) : Value := .int .u32 (m : Nat)
def mkE (e : Nat × Nat × Nat) : Value := .agg #[.int .i64 (e.1 : Nat), .int .u32 (e.2.1 : Nat), .int .u32 (e.2.2 : Nat)]
def star : ByteArray := resS 0

/-- The cells of the wide roles' masks. -/
def wideCells (nW : Nat) (ev ob : Nat → Nat) : List Value := (List.range nW).flatMap fun i => [.int .i64 (ev i : Nat), .map (some (ob i))]

theorem wide_len (nW : Nat) (ev ob : Nat → Nat) : (wideCells nW ev ob).length = nW * 2 := by
  induction nW with
  | zero => rfl
  | succ n ih => unfold wideCells at *; rw [List.range_succ, List.flatMap_append, List.length_append, ih]; simp; omega
theorem wide_succ (nW : Nat) (ev ob : Nat → Nat) : wideCells (nW + 1) ev ob = wideCells nW ev ob ++ [.int .i64 (ev nW : Nat), .map (some (ob nW))] := by
  unfold wideCells; rw [List.range_succ, List.flatMap_append]; simp
theorem wide_congr {nW : Nat} {ev ob ev' ob' : Nat → Nat} (h : ∀ i, i < nW → ev i = ev' i ∧ ob i = ob' i) : wideCells nW ev ob = wideCells nW ev' ob' := by
  induction nW with
  | zero => rfl
  | succ n ih => rw [wide_succ, wide_succ, ih (fun i hi => h i (by omega)), (h n (by omega)).1, (h n (by omega)).2]
theorem wide_at {nW : Nat} {ev ob : Nat → Nat} {i : Nat} (h : i < nW) : (wideCells nW ev ob)[2 * i]? = some (.int .i64 (ev i : Nat)) ∧ (wideCells nW ev ob)[2 * i + 1]? = some (.map (some (ob i))) := by
  induction nW with
  | zero => omega
  | succ n ih =>
    rw [wide_succ]
    have hl := wide_len n ev ob
    by_cases hi : i < n
    · rw [List.getElem?_append_left (by omega), List.getElem?_append_left (by omega)]; exact ih hi
    · obtain rfl : i = n := by omega
      rw [List.getElem?_append_right (by omega), List.getElem?_append_right (by omega), hl]
      have e1 : 2 * i - i * 2 = 0 := by omega
      have e2 : 2 * i + 1 - i * 2 = 1 := by omega
      rw [e1, e2]
      exact ⟨rfl, rfl⟩

/-- THE TABLE IN MEMORY. -/
structure Tab (w : World) (base X bR : Nat) (fR : List UInt8 → Option (Nat × Nat × Nat)) (vs vw : Value) (Rs : List ByteArray) (nW : Nat) (ev ob : Nat → Nat) (fo : Nat → List UInt8 → Option Nat) : Prop where
  hX : w.heap[X]? = some (.cells #[.map (some bR), vs, vw] 42 (0, 0))
  hR : ∃ s, RM w bR (fun k => (fR k).map mkE) s
  hs : w.ownsRow base 9 1 vs Rs.length (Rs.map Value.string)
  hw : w.ownsRow base 62 2 vw nW (wideCells nW ev ob)
  ho : ∀ i, i < nW → ∃ s, RM w (ob i) (fun k => (fo i k).map mkM) s
  dR : ∀ i, i < nW → ob i ≠ bR

/-- What the table says of a role on a resource. -/
def said (fR : List UInt8 → Option (Nat × Nat × Nat)) (Rs : List ByteArray) (ev : Nat → Nat) (fo : Nat → List UInt8 → Option Nat) (key r : List UInt8) : Nat :=
  match fR key with
  | none => 0
  | some (m, p, wd) => if wd = 0 then (if (Rs.getD p ByteArray.empty).data.toList = r ∨ (Rs.getD p ByteArray.empty).data.toList = Pl.resL 0 then m else 0) else ev (wd - 1) ||| (fo (wd - 1) r).getD 0

/-- The entries point to what is there. -/
structure Fine (fR : List UInt8 → Option (Nat × Nat × Nat)) (Rs : List ByteArray) (nW : Nat) (ev : Nat → Nat) (fo : Nat → List UInt8 → Option Nat) : Prop where
  head : Rs.getD 0 ByteArray.empty = star
  pos : 0 < Rs.length
  small : Rs.length ≤ 4000 ∧ nW ≤ 4000
  at_ : ∀ key m p wd, fR key = some (m, p, wd) → p < Rs.length ∧ wd ≤ nW ∧ m < 2 ^ 63
  evs : ∀ i, i < nW → ev i < 2 ^ 63
  fos : ∀ i, i < nW → ∀ k m, fo i k = some m → m < 2 ^ 63

theorem zero65 (w : World) : (zeroValue 65).run Ybaf.prog w = .ok (mkE (0, 0, 0)) w := by kernel_rfl
theorem zero49 (w : World) : (zeroValue 49).run Ybaf.prog w = .ok (mkM 0) w := by kernel_rfl
theorem zero58 (w : World) : (zeroValue 58).run Ybaf.prog w = .ok (mkP 0) w := by kernel_rfl

theorem Tab.cells {w : World} {base X bR : Nat} {fR : List UInt8 → Option (Nat × Nat × Nat)} {vs vw : Value} {Rs : List ByteArray} {nW : Nat} {ev ob : Nat → Nat} {fo : Nat → List UInt8 → Option Nat} (h : Tab w base X bR fR vs vw Rs nW ev ob fo) :
    w.cell? ⟨X, 0, none⟩ = some (.map (some bR)) ∧ w.cell? ⟨X, 1, none⟩ = some vs ∧ w.cell? ⟨X, 2, none⟩ = some vw ∧ X < w.heap.size := by
  refine ⟨by simp [World.cell?, h.hX], by simp [World.cell?, h.hX], by simp [World.cell?, h.hX], (Array.getElem?_eq_some_iff.1 h.hX).1⟩

/-- The strings of 'resources', the slice's shape. -/
theorem owns_strs {w : World} {base : Nat} {v : Value} {xs : List ByteArray} (h : w.ownsRow base 9 1 v xs.length (xs.map Value.string)) (hn : 0 < xs.length) : ∃ g cap, v = .slice (some ⟨g, 0, none⟩) xs.length cap ∧ (∀ i, i < xs.length → w.cell? ⟨g, i, none⟩ = some (.string (xs.getD i ByteArray.empty))) := by
  have hc := fun g => @World.ownsRow.cells w base 9 1 v _ _ h g
  obtain ⟨h1, h2⟩ := h
  rcases h2 with ⟨_, h2⟩ | ⟨g, cap, cur, hv, _⟩
  · omega
  · refine ⟨g, cap, hv, fun i hi => ?_⟩
    subst hv
    have := hc g rfl i (.string (xs.getD i ByteArray.empty)) (by simp [List.getD, hi])
    have e : (⟨g, 0, none⟩ : Addr).add i = ⟨g, i, none⟩ := by simp [Addr.add]; exact Eq.symm
    rw [e] at this
    exact this

theorem owns_wide {w : World} {base nW : Nat} {ev ob : Nat → Nat} {v : Value} (h : w.ownsRow base 62 2 v nW (wideCells nW ev ob)) {i : Nat} (hi : i < nW) : ∃ g cap, v = .slice (some ⟨g, 0, none⟩) nW cap ∧ w.cell? ⟨g, i * 2, none⟩ = some (.int .i64 (ev i : Nat)) ∧ w.cell? ⟨g, i * 2 + 1, none⟩ = some (.map (some (ob i))) := by
  have hc := fun g => @World.ownsRow.cells w base 62 2 v _ _ h g
  obtain ⟨h1, h2⟩ := h
  rcases h2 with ⟨_, h2⟩ | ⟨g, cap, cur, hv, _⟩
  · omega
  · subst hv
    have e : ∀ j, (⟨g, 0, none⟩ : Addr).add j = ⟨g, j, none⟩ := fun j => by simp [Addr.add]; exact Eq.symm
    have h3 := hc g rfl (2 * i) _ (wide_at hi).1
    have h4 := hc g rfl (2 * i + 1) _ (wide_at hi).2
    rw [e, Nat.mul_comm] at h3
    rw [e, Nat.mul_comm] at h4
    exact ⟨g, cap, rfl, h3, h4⟩

theorem below_one (w : World) (o : Obj) (n : Nat) : Below w.heap.size w ((w.alloc o).drewN n) := ((Below.refl _ w).alloc (Nat.le_refl _) o).trans ⟨rfl, rfl, rfl, Nat.le_refl _, fun _ _ => rfl⟩

set_option maxRecDepth 100000 in
set_option maxHeartbeats 1600000 in
/-- grants: a role that the table holds in its entry alone, or not at all. -/
theorem grants_narrow (role res : ByteArray) {w : World} {base X bR : Nat} {fR : List UInt8 → Option (Nat × Nat × Nat)} {vs vw : Value} {Rs : List ByteArray} {nW : Nat} {ev ob : Nat → Nat} {fo : Nat → List UInt8 → Option Nat}
    (h : Tab w base X bR fR vs vw Rs nW ev ob fo) (F : Fine fR Rs nW ev fo) (hr : role.size ≤ maxLen) (m p r : Nat) (hp : p < Rs.length) (hf : (fR role.data.toList).getD (0, 0, 0) = (m, p, 0))
    (HR : Hid (r = if (Rs.getD p ByteArray.empty).data.toList = res.data.toList ∨ (Rs.getD p ByteArray.empty).data.toList = Pl.resL 0 then m else 0)) :
    Calls Ybaf.prog 12 #[.pointer (some ⟨X, 0, none⟩), .string role, .string res] w fun e w' => e = .returned (.int .i64 (r : Nat)) ∧ Below w.heap.size w w' := by
  obtain ⟨c0, c1, c2, hlt⟩ := h.cells
  obtain ⟨s, hR⟩ := h.hR
  obtain ⟨g, cap, rfl, hcs⟩ := owns_strs h.hs F.pos
  have hcp := hcs p hp
  have hsm := F.small.1
  have hget := hR.get Ybaf.underlying39 (zero65 w) hr
  have e1 : ((fR role.data.toList).map mkE).getD (mkE (0, 0, 0)) = mkE (m, p, 0) := by rw [← hf]; cases fR role.data.toList <;> rfl
  rw [e1] at hget
  have hget' : (Instr.lookup 39 (.map (some bR)) (.string role) false).run Ybaf.prog w = .ok (.agg #[.int .i64 (m : Nat), .int .u32 (p : Nat), .int .u32 0]) w := hget
  have hp' : (p : Int) < (Rs.length : Int) := by omega
  have hgl : g < w.heap.size := World.block_lt_of_cell? w _ hcp
  clear hget hR hf e1 hcs h F hp
  generalize Rs.getD p ByteArray.empty = on at *
  generalize Rs.length = nR at *
  have cases3 : (on.toList == res.toList) = true ∧ r = m ∨ (on.toList == res.toList) = false ∧ (on.toList == [42]) = true ∧ r = m ∨ (on.toList == res.toList) = false ∧ (on.toList == [42]) = false ∧ r = 0 := by
    simp only [ByteArray.toList_eq]
    have hr := HR.out
    by_cases h1 : on.data.toList = res.data.toList
    · rw [if_pos (.inl h1)] at hr
      exact .inl ⟨by simpa using h1, hr⟩
    · by_cases h2 : on.data.toList = Pl.resL 0
      · rw [if_pos (.inr h2)] at hr
        exact .inr (.inl ⟨by simpa using h1, beq_iff_eq.2 h2, hr⟩)
      · rw [if_neg (fun h => h.elim h1 h2)] at hr
        exact .inr (.inr ⟨by simpa using h1, beq_eq_false_iff_ne.2 h2, hr⟩)
  clear HR
  rcases cases3 with ⟨q1, rfl⟩ | ⟨q1, q2, rfl⟩ | ⟨q1, q2, rfl⟩
  all_goals
    go_enter Ybaf.func12, Ybaf.ntmps12
    go_wp2_with fail
    go_quiet (fail)
    go_wp2
    go_ret
    exact ⟨rfl, below_one w _ _⟩

set_option maxRecDepth 100000 in
set_option maxHeartbeats 1600000 in
/-- grants: a role that grants on more than one resource. -/
theorem grants_wide (role res : ByteArray) {w : World} {base X bR : Nat} {fR : List UInt8 → Option (Nat × Nat × Nat)} {vs vw : Value} {Rs : List ByteArray} {nW : Nat} {ev ob : Nat → Nat} {fo : Nat → List UInt8 → Option Nat}
    (h : Tab w base X bR fR vs vw Rs nW ev ob fo) (F : Fine fR Rs nW ev fo) (hr : role.size ≤ maxLen) (hr2 : res.size ≤ maxLen) (m p i : Nat) (hi : i < nW) (hf : fR role.data.toList = some (m, p, i + 1)) :
    Calls Ybaf.prog 12 #[.pointer (some ⟨X, 0, none⟩), .string role, .string res] w fun e w' => e = .returned (.int .i64 ((ev i ||| (fo i res.data.toList).getD 0 : Nat) : Int)) ∧ Below w.heap.size w w' := by
  obtain ⟨c0, c1, c2, hlt⟩ := h.cells
  obtain ⟨s, hR⟩ := h.hR
  obtain ⟨s2, ho⟩ := h.ho i hi
  obtain ⟨g, cap, rfl, hc1, hc2⟩ := owns_wide h.hw hi
  have hsm := F.small.2
  have hev := F.evs i hi
  have hfo : (fo i res.data.toList).getD 0 < 2 ^ 63 := by
    cases hh : fo i res.data.toList with
    | none => decide
    | some q => exact F.fos i hi _ q hh
  have hget := hR.get Ybaf.underlying39 (zero65 w) hr
  have hget' : (Instr.lookup 39 (.map (some bR)) (.string role) false).run Ybaf.prog w = .ok (.agg #[.int .i64 (m : Nat), .int .u32 (p : Nat), .int .u32 ((i : Int) + 1)]) w := by rw [hf] at hget; exact hget
  have hgo : ∀ w', w'.heap[ob i]? = w.heap[ob i]? → (Instr.lookup 60 (.map (some (ob i))) (.string res) false).run Ybaf.prog w' = .ok (.int .i64 ((fo i res.data.toList).getD 0 : Nat)) w' := fun w' hw' => by
    have h1 := (ho.block hw').get Ybaf.underlying60 (zero49 w') hr2
    rw [h1]; cases fo i res.data.toList <;> rfl
  have hol := ho.lt
  have hgl : g < w.heap.size := World.block_lt_of_cell? w _ hc1
  clear hget hR hf ho h F
  have hgo2 : ∀ o o', (Instr.lookup 60 (.map (some (ob i))) (.string res) false).run Ybaf.prog ((w.alloc o).alloc o').drew = .ok (.int .i64 ((fo i res.data.toList).getD 0 : Nat)) ((w.alloc o).alloc o').drew := fun o o' =>
    hgo _ ((Below.heap_alloc (w.alloc o) o' _ (by simp; omega)).trans (Below.heap_alloc w o _ hol))
  clear hgo
  generalize (fo i res.data.toList).getD 0 = q at *
  generalize ev i = ee at *
  generalize ob i = ooo at *
  rw [← i64_or_nat ee q hev hfo]
  go_enter Ybaf.func12, Ybaf.ntmps12
  go_wp2_with fail
  go_region
  all_goals
    go_wp2
    go_ret
    exact ⟨rfl, (((Below.refl _ w).alloc (Nat.le_refl _) _).alloc (by simp) _).drew⟩

end Go.Proofs.YbulkdzqsFmt

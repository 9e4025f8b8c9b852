/-
  Seat b6310aF: the state of NewRoleTable's loop, and what each step does to it.
-/
import Derived.Test.YbulkdzqsFmtPerm
import Derived.Deep.RegionLaw
namespace Go.Proofs.YbulkdzqsFmt
open Go.RowKit Go.Maps

/-- append, as one step of a region that draws. -/
theorem step_append_own {P : Program} {ops : Array Oper} {o : Oper} {a : Act} {w : World} {K : Act → World → Prop} {Q : Exit → Act → World → Prop} {E : Prop}
    (hg : o.guard = none) (s x : Operand) (t : TypeId) (ho : o.op = .call { callee := .builtin .append, args := #[s, x], argTypes := #[t, t] })
    (base : Nat) (e : TypeId) (i : TypeInfo) (z : Value) (size bytes : Nat) (ht : P.underlying t = some (.slice e)) (hi : P.info? e = some i) (hz : i.zero = some z)
    (hsize : i.size = size) (hby : i.bytes = bytes) (hzs : z.cells.size = size) (hsz : 0 < size)
    (v : Value) (n : Nat) (xs : List Value) (hs : a.eval s = v) (hown : w.ownsRow base e size v n xs)
    (ad : Addr) (m c : Nat) (news : List Value) (hx : a.eval x = .slice (some ad) m c) (hl : news.length = m * size) (hnews : ∀ j u, news[j]? = some u → w.cell? (ad.add j) = some u) (h1 : ∀ u ∈ news, u.oneCell' = true)
    (h63 : n + m ≤ maxLen) (hbytes : (n + m) * bytes ≤ 140737488355328) (hbase : base ≤ w.heap.size)
    (h : ∀ v' w', w'.ownsRow base e size v' (n + m) (xs ++ news) → w.grownBy w' v.ownBlock → K (a.put o.dst v') w') :
    if Region.wanted o (yielded ops a.tmps) = true then Oper.wp P o a w K Q else E := by
  have hw : Region.wanted o (yielded ops a.tmps) = true := by simp [Region.wanted, hg]
  rw [if_pos hw]
  exact wp_append_own w s x t ho base e i z size bytes ht hi hz hsize hby hzs hsz v n xs hs hown ad m c news hx hl hnews h1 h63 hbytes hbase (fun v' w' h2 h3 _ => h v' w' h2 h3)

section
variable {w w' : World} {base X bR : Nat} {fR : List UInt8 → Option (Nat × Nat × Nat)} {vs vw : Value} {Rs : List ByteArray} {nW : Nat} {ev ob : Nat → Nat} {fo : Nat → List UInt8 → Option Nat}

theorem row_obj {w : World} {base : Nat} {e : TypeId} {size : Nat} {v : Value} {n : Nat} {xs : List Value} (h : w.ownsRow base e size v n xs) {g : Nat} (hg : v.ownBlock = some g) : ∃ cur, w.heap[g]? = some (.cells cur e (0, 0)) ∧ base ≤ g := by
  obtain ⟨_, h2⟩ := h
  rcases h2 with ⟨h2, _⟩ | ⟨g', cap, cur, hv, hb, hh, _⟩
  · rw [h2] at hg; cases hg
  · rw [hv] at hg; cases hg; exact ⟨cur, hh, hb⟩

/-- A step that leaves each block of the table as it was. -/
theorem Tab.keep (h : Tab w base X bR fR vs vw Rs nW ev ob fo) (hX : w'.heap[X]? = w.heap[X]?) (hR : w'.heap[bR]? = w.heap[bR]?) (hs : ∀ g, vs.ownBlock = some g → w'.heap[g]? = w.heap[g]?) (hw : ∀ g, vw.ownBlock = some g → w'.heap[g]? = w.heap[g]?)
    (ho : ∀ i, i < nW → w'.heap[ob i]? = w.heap[ob i]?) : Tab w' base X bR fR vs vw Rs nW ev ob fo where
  hX := hX.trans h.hX
  hR := by obtain ⟨s, h1⟩ := h.hR; exact ⟨s, h1.block hR⟩
  hs := owns_block h.hs hs
  hw := owns_block h.hw hw
  ho := fun i hi => by obtain ⟨s, h1⟩ := h.ho i hi; exact ⟨s, h1.block (ho i hi)⟩
  dR := h.dR

theorem Tab.ltX (h : Tab w base X bR fR vs vw Rs nW ev ob fo) : X < w.heap.size := (Array.getElem?_eq_some_iff.1 h.hX).1
theorem Tab.ltR (h : Tab w base X bR fR vs vw Rs nW ev ob fo) : bR < w.heap.size := by obtain ⟨s, h1⟩ := h.hR; exact h1.lt
theorem Tab.lto (h : Tab w base X bR fR vs vw Rs nW ev ob fo) (i : Nat) (hi : i < nW) : ob i < w.heap.size := by obtain ⟨s, h1⟩ := h.ho i hi; exact h1.lt

/-- A step that writes one block alone, which is none of the table's. -/
theorem Tab.other (h : Tab w base X bR fR vs vw Rs nW ev ob fo) {row : Nat} (hg : w.grownBy w' (some row)) (hX : X ≠ row) (hR : bR ≠ row) (hs : vs.ownBlock ≠ some row) (hw : vw.ownBlock ≠ some row) (ho : ∀ i, i < nW → ob i ≠ row) : Tab w' base X bR fR vs vw Rs nW ev ob fo :=
  h.keep (hg.block X h.ltX (fun e => hX (Option.some.inj e))) (hg.block bR h.ltR (fun e => hR (Option.some.inj e))) (fun g hh => hg.block g (h.hs.lt g hh).2 (fun e => hs (by rw [hh]; exact e))) (fun g hh => hg.block g (h.hw.lt g hh).2 (fun e => hw (by rw [hh]; exact e)))
    (fun i hi => hg.block _ (h.lto i hi) (fun e => ho i hi (Option.some.inj e)))

/-- The block of a map is none of the table's rows, nor the table's own. -/
theorem Tab.map_ne (h : Tab w base X bR fR vs vw Rs nW ev ob fo) {b : Nat} (hb : ∃ es c, w.heap[b]? = some (.map es c)) : X ≠ b ∧ vs.ownBlock ≠ some b ∧ vw.ownBlock ≠ some b := by
  obtain ⟨es, c, hb⟩ := hb
  refine ⟨fun e => ?_, fun e => ?_, fun e => ?_⟩
  · subst e; rw [h.hX] at hb; cases hb
  · obtain ⟨cur, hh, _⟩ := row_obj h.hs e; rw [hh] at hb; cases hb
  · obtain ⟨cur, hh, _⟩ := row_obj h.hw e; rw [hh] at hb; cases hb

/-- The block of an iterator is none of the table's. -/
theorem Tab.iter_ne (h : Tab w base X bR fR vs vw Rs nW ev ob fo) {r : Nat} (hr : ∃ a b c d, w.heap[r]? = some (.mapIter a b c d)) : X ≠ r ∧ bR ≠ r ∧ vs.ownBlock ≠ some r ∧ vw.ownBlock ≠ some r ∧ ∀ i, i < nW → ob i ≠ r := by
  obtain ⟨a, b, c, d, hr⟩ := hr
  refine ⟨fun e => ?_, fun e => ?_, fun e => ?_, fun e => ?_, fun i hi e => ?_⟩
  · subst e; rw [h.hX] at hr; cases hr
  · subst e; obtain ⟨s, h1⟩ := h.hR; obtain ⟨es, c', hh⟩ := h1.isMap; rw [hh] at hr; cases hr
  · obtain ⟨cur, hh, _⟩ := row_obj h.hs e; rw [hh] at hr; cases hr
  · obtain ⟨cur, hh, _⟩ := row_obj h.hw e; rw [hh] at hr; cases hr
  · subst e; obtain ⟨s, h1⟩ := h.ho i hi; obtain ⟨es, c', hh⟩ := h1.isMap; rw [hh] at hr; cases hr

theorem Tab.iter (h : Tab w base X bR fR vs vw Rs nW ev ob fo) {r : Nat} (hr : ∃ a b c d, w.heap[r]? = some (.mapIter a b c d)) (hg : w.grownBy w' (some r)) : Tab w' base X bR fR vs vw Rs nW ev ob fo := by
  obtain ⟨h1, h2, h3, h4, h5⟩ := h.iter_ne hr
  exact h.other hg h1 h2 h3 h4 h5

/-- A store into a map that is none of the table's. -/
theorem Tab.turned (h : Tab w base X bR fR vs vw Rs nW ev ob fo) {b : Nat} (ht : w.mapTurned w' b) (hR : bR ≠ b) (ho : ∀ i, i < nW → ob i ≠ b) : Tab w' base X bR fR vs vw Rs nW ev ob fo := by
  have hb : ∃ es c, w.heap[b]? = some (.map es c) := by obtain ⟨es, c, _, _, hb, _⟩ := ht; exact ⟨es, c, hb⟩
  obtain ⟨h1, h3, h4⟩ := h.map_ne hb
  exact h.other ht.grown h1 hR h3 h4 ho

/-- 't.roles[k] = e'. -/
theorem Tab.role (h : Tab w base X bR fR vs vw Rs nW ev ob fo) (ht : w.mapTurned w' bR) {fR' : List UInt8 → Option (Nat × Nat × Nat)} (hR : ∃ s, RM w' bR (fun k => (fR' k).map mkE) s) : Tab w' base X bR fR' vs vw Rs nW ev ob fo := by
  have hb : ∃ es c, w.heap[bR]? = some (.map es c) := by obtain ⟨es, c, _, _, hb, _⟩ := ht; exact ⟨es, c, hb⟩
  obtain ⟨h1, h3, h4⟩ := h.map_ne hb
  have hg := ht.grown
  exact { hX := (hg.block X h.ltX (fun e => h1 (Option.some.inj e))).trans h.hX, hR := hR, hs := owns_block h.hs (fun g hh => hg.block g (h.hs.lt g hh).2 (fun e => h3 (by rw [hh]; exact e))), hw := owns_block h.hw (fun g hh => hg.block g (h.hw.lt g hh).2 (fun e => h4 (by rw [hh]; exact e))),
          ho := fun i hi => by obtain ⟨s, h1⟩ := h.ho i hi; exact ⟨s, h1.block (hg.block _ (h.lto i hi) (fun e => h.dR i hi (Option.some.inj e)))⟩, dR := h.dR }

theorem setX {w : World} {X : Nat} {a b c : Value} (h : w.heap[X]? = some (.cells #[a, b, c] 42 (0, 0))) (v : Value) : (w.setCell ⟨X, 1, none⟩ v).heap[X]? = some (.cells #[a, v, c] 42 (0, 0)) ∧ (w.setCell ⟨X, 2, none⟩ v).heap[X]? = some (.cells #[a, b, v] 42 (0, 0)) := by
  constructor <;> simp [World.setCell, Array.getElem?_modify, h]

theorem Tab.res_map (h : Tab w base X bR fR vs vw Rs nW ev ob fo) {v' : Value} (hg : w.grownBy w' vs.ownBlock) {b : Nat} (hb : ∃ es c, w.heap[b]? = some (.map es c)) : (w'.setCell ⟨X, 1, none⟩ v').heap[b]? = w.heap[b]? := by
  obtain ⟨h1, h2, _⟩ := h.map_ne hb
  obtain ⟨es, c, hb⟩ := hb
  rw [Below.heap_setCell _ _ _ _ (fun e => h1 e.symm)]
  exact hg.block b (Array.getElem?_eq_some_iff.1 hb).1 (fun e => h2 e.symm)
theorem Tab.wid_map (h : Tab w base X bR fR vs vw Rs nW ev ob fo) {v' : Value} (hg : w.grownBy w' vw.ownBlock) {b : Nat} (hb : ∃ es c, w.heap[b]? = some (.map es c)) : (w'.setCell ⟨X, 2, none⟩ v').heap[b]? = w.heap[b]? := by
  obtain ⟨h1, _, h2⟩ := h.map_ne hb
  obtain ⟨es, c, hb⟩ := hb
  rw [Below.heap_setCell _ _ _ _ (fun e => h1 e.symm)]
  exact hg.block b (Array.getElem?_eq_some_iff.1 hb).1 (fun e => h2 e.symm)
/-- The iterator stays where it is. -/
theorem Tab.res_iter (h : Tab w base X bR fR vs vw Rs nW ev ob fo) {v' : Value} (hg : w.grownBy w' vs.ownBlock) {b : Nat} (hb : ∃ a1 a2 a3 a4, w.heap[b]? = some (.mapIter a1 a2 a3 a4)) : (w'.setCell ⟨X, 1, none⟩ v').heap[b]? = w.heap[b]? := by
  obtain ⟨h1, _, h2, _⟩ := h.iter_ne hb
  obtain ⟨_, _, _, _, hb⟩ := hb
  rw [Below.heap_setCell _ _ _ _ (fun e => h1 e.symm)]
  exact hg.block b (Array.getElem?_eq_some_iff.1 hb).1 (fun e => h2 e.symm)
theorem Tab.wid_iter (h : Tab w base X bR fR vs vw Rs nW ev ob fo) {v' : Value} (hg : w.grownBy w' vw.ownBlock) {b : Nat} (hb : ∃ a1 a2 a3 a4, w.heap[b]? = some (.mapIter a1 a2 a3 a4)) : (w'.setCell ⟨X, 2, none⟩ v').heap[b]? = w.heap[b]? := by
  obtain ⟨h1, _, _, h2, _⟩ := h.iter_ne hb
  obtain ⟨_, _, _, _, hb⟩ := hb
  rw [Below.heap_setCell _ _ _ _ (fun e => h1 e.symm)]
  exact hg.block b (Array.getElem?_eq_some_iff.1 hb).1 (fun e => h2 e.symm)

/-- 't.resources = append(t.resources, x)': from the world w, a step that writes the row of 'resources' alone, and the store. -/
theorem Tab.res (h : Tab w base X bR fR vs vw Rs nW ev ob fo) {x : ByteArray} {v' : Value} (hg : w.grownBy w' vs.ownBlock) (ho : w'.ownsRow base 9 1 v' (Rs.length + 1) (Rs.map Value.string ++ [.string x])) :
    Tab (w'.setCell ⟨X, 1, none⟩ v') base X bR fR v' vw (Rs ++ [x]) nW ev ob fo := by
  have hXe := hg.block X h.ltX (fun e => by obtain ⟨cur, hh, _⟩ := row_obj h.hs e.symm; rw [h.hX] at hh; cases hh)
  have hX' := hXe.trans h.hX
  have hmap : ∀ b, (∃ s f, RM w b f s) → (w'.setCell ⟨X, 1, none⟩ v').heap[b]? = w.heap[b]? := fun b hb => by
    obtain ⟨s, f, hb⟩ := hb
    obtain ⟨h1, h2, _⟩ := h.map_ne hb.isMap
    rw [Below.heap_setCell _ _ _ _ (fun e => h1 e.symm)]
    exact hg.block b hb.lt (fun e => h2 e.symm)
  refine { hX := (setX hX' v').1, hR := ?_, hs := ?_, hw := ?_, ho := ?_, dR := h.dR }
  · obtain ⟨s, h1⟩ := h.hR; exact ⟨s, h1.block (hmap bR ⟨s, _, h1⟩)⟩
  · have := owns_block (w' := w'.setCell ⟨X, 1, none⟩ v') ho (fun g hh => Below.heap_setCell _ _ _ _ (fun e => by
      obtain ⟨cur, h1, _⟩ := row_obj ho hh
      have e' : g = X := e
      rw [e', hX'] at h1; cases h1))
    simpa using this
  · refine owns_block h.hw (fun g hh => ?_)
    obtain ⟨cur, h1, _⟩ := row_obj h.hw hh
    rw [Below.heap_setCell _ _ _ _ (fun e => by have e' : g = X := e; rw [e', h.hX] at h1; cases h1)]
    exact hg.block g (h.hw.lt g hh).2 (fun e => by obtain ⟨cur', h2, _⟩ := row_obj h.hs e.symm; rw [h1] at h2; cases h2)
  · intro i hi; obtain ⟨s, h1⟩ := h.ho i hi; exact ⟨s, h1.block (hmap _ ⟨s, _, h1⟩)⟩

/-- 't.wide = append(t.wide, masks)'. -/
theorem Tab.wid (h : Tab w base X bR fR vs vw Rs nW ev ob fo) {v' : Value} {ev' ob' : Nat → Nat} {fo' : Nat → List UInt8 → Option Nat} (hg : w.grownBy w' vw.ownBlock) (ho : w'.ownsRow base 62 2 v' (nW + 1) (wideCells (nW + 1) ev' ob'))
    (hold : ∀ i, i < nW → ob' i = ob i ∧ fo' i = fo i) (hnew : ∃ s, RM w (ob' nW) (fun k => (fo' nW k).map mkM) s) (hne : ob' nW ≠ bR) :
    Tab (w'.setCell ⟨X, 2, none⟩ v') base X bR fR vs v' Rs (nW + 1) ev' ob' fo' := by
  have hXe := hg.block X h.ltX (fun e => by obtain ⟨cur, hh, _⟩ := row_obj h.hw e.symm; rw [h.hX] at hh; cases hh)
  have hX' := hXe.trans h.hX
  have hmap : ∀ b, (∃ s f, RM w b f s) → (w'.setCell ⟨X, 2, none⟩ v').heap[b]? = w.heap[b]? := fun b hb => by
    obtain ⟨s, f, hb⟩ := hb
    obtain ⟨h1, _, h2⟩ := h.map_ne hb.isMap
    rw [Below.heap_setCell _ _ _ _ (fun e => h1 e.symm)]
    exact hg.block b hb.lt (fun e => h2 e.symm)
  refine { hX := (setX hX' v').2, hR := ?_, hs := ?_, hw := ?_, ho := ?_, dR := ?_ }
  · obtain ⟨s, h1⟩ := h.hR; exact ⟨s, h1.block (hmap bR ⟨s, _, h1⟩)⟩
  · refine owns_block h.hs (fun g hh => ?_)
    obtain ⟨cur, h1, _⟩ := row_obj h.hs hh
    rw [Below.heap_setCell _ _ _ _ (fun e => by have e' : g = X := e; rw [e', h.hX] at h1; cases h1)]
    exact hg.block g (h.hs.lt g hh).2 (fun e => by obtain ⟨cur', h2, _⟩ := row_obj h.hw e.symm; rw [h1] at h2; cases h2)
  · exact owns_block (w' := w'.setCell ⟨X, 2, none⟩ v') ho (fun g hh => Below.heap_setCell _ _ _ _ (fun e => by
      obtain ⟨cur, h1, _⟩ := row_obj ho hh
      have e' : g = X := e
      rw [e', hX'] at h1; cases h1))
  · intro i hi
    by_cases hi' : i < nW
    · obtain ⟨s, h1⟩ := h.ho i hi'; rw [(hold i hi').1, (hold i hi').2]; exact ⟨s, h1.block (hmap _ ⟨s, _, h1⟩)⟩
    · obtain rfl : i = nW := by omega
      obtain ⟨s, h1⟩ := hnew; exact ⟨s, h1.block (hmap _ ⟨s, _, h1⟩)⟩
  · intro i hi
    by_cases hi' : i < nW
    · rw [(hold i hi').1]; exact h.dR i hi'
    · obtain rfl : i = nW := by omega
      exact hne
end

end Go.Proofs.YbulkdzqsFmt

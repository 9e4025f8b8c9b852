/-
  Seat b6310aF: the grants in memory; the loop's state; what each step does to what the table says.
-/
import Derived.Test.YbulkdzqsFmtState
namespace Go.Proofs.YbulkdzqsFmt
open Go.RowKit Go.Maps

def outerF (B : Nat → Nat) (nm : Nat → Bool) (key : List UInt8) : Option Value :=
  match Pl.roleIdx key with
  | some j => if nm j = true then some (.map (some (B j))) else none
  | none => none
def innerF (Vj : Nat → Value) (pj : Nat → List Nat) (key : List UInt8) : Option Value :=
  match Pl.resIdx key with
  | some k => if pj k = [] then none else some (Vj k)
  | none => none

theorem outer_some {B : Nat → Nat} {nm : Nat → Bool} {key : List UInt8} {v : Value} (h : outerF B nm key = some v) : ∃ j, j < 4 ∧ nm j = true ∧ key = Pl.roleL j ∧ v = .map (some (B j)) := by
  unfold outerF at h
  cases hr : Pl.roleIdx key with
  | none => rw [hr] at h; cases h
  | some j =>
    rw [hr] at h
    simp only at h
    by_cases hn : nm j = true
    · rw [if_pos hn] at h; exact ⟨j, (Pl.roleIdx_some hr).2, hn, (Pl.roleIdx_some hr).1, (Option.some.inj h).symm⟩
    · rw [if_neg hn] at h; cases h
theorem inner_some {Vj : Nat → Value} {pj : Nat → List Nat} {key : List UInt8} {v : Value} (h : innerF Vj pj key = some v) : ∃ k, k < 4 ∧ pj k ≠ [] ∧ key = Pl.resL k ∧ v = Vj k := by
  unfold innerF at h
  cases hr : Pl.resIdx key with
  | none => rw [hr] at h; cases h
  | some j =>
    rw [hr] at h
    simp only at h
    by_cases hn : pj j = []
    · rw [if_pos hn] at h; cases h
    · rw [if_neg hn] at h; exact ⟨j, (Pl.resIdx_some hr).2, hn, (Pl.resIdx_some hr).1, (Option.some.inj h).symm⟩
theorem outer_at {B : Nat → Nat} {nm : Nat → Bool} {j : Nat} (hj : j < 4) : outerF B nm (Pl.roleL j) = if nm j = true then some (.map (some (B j))) else none := by
  unfold outerF; rw [Pl.roleIdx_roleL j hj]
theorem inner_at {Vj : Nat → Value} {pj : Nat → List Nat} {k : Nat} (hk : k < 4) : innerF Vj pj (Pl.resL k) = if pj k = [] then none else some (Vj k) := by
  unfold innerF; rw [Pl.resIdx_resL k hk]

theorem ba_ext {a b : ByteArray} (h : a.data.toList = b.data.toList) : a = b := by
  cases a; cases b; simp at h; rw [h]
theorem roleS_bytes (j : Nat) : (roleS j).data.toList = Pl.roleL j := by simp [roleS]
theorem resS_bytes (j : Nat) : (resS j).data.toList = Pl.resL j := by simp [resS]

/-- THE GRANTS IN MEMORY. -/
structure Gr (w : World) (base bG : Nat) (B : Nat → Nat) (V : Nat → Nat → Value) (nm : Nat → Bool) (pm : Nat → Nat → List Nat) (lim : Nat) : Prop where
  hG : ∃ s, RM w bG (outerF B nm) s ∧ s ≤ lim
  hI : ∀ j, j < 4 → nm j = true → ∃ s, RM w (B j) (innerF (V j) (pm j)) s ∧ s ≤ lim
  hV : ∀ j k, j < 4 → k < 4 → pm j k ≠ [] → w.ownsRow base 31 1 (V j k) (pm j k).length ((pm j k).map mkM)
  hlen : ∀ j k, (pm j k).length ≤ lim
  h63 : ∀ j k p, p ∈ pm j k → p < 63
  hnm : ∀ j k, pm j k ≠ [] → nm j = true
  hk4 : ∀ j k, pm j k ≠ [] → k < 4
  dG : ∀ j, j < 4 → nm j = true → B j ≠ bG
  dB : ∀ i j, i < 4 → j < 4 → nm i = true → nm j = true → i ≠ j → B i ≠ B j
  dV : ∀ i k j l, i < 4 → k < 4 → j < 4 → l < 4 → pm i k ≠ [] → pm j l ≠ [] → ¬ (i = j ∧ k = l) → (V i k).ownBlock ≠ (V j l).ownBlock
  lo : base ≤ bG ∧ ∀ j, j < 4 → nm j = true → base ≤ B j

theorem Gr.mk_lt {w : World} {base bG : Nat} {B : Nat → Nat} {V : Nat → Nat → Value} {nm : Nat → Bool} {pm : Nat → Nat → List Nat} {lim : Nat} (h : Gr w base bG B V nm pm lim) (j k : Nat) : Pl.Mk (pm j k) < 2 ^ 63 := Pl.Mk_lt _ (fun p hp => h.h63 j k p hp)

/-- A row of permissions that isn't empty: its shape and its cells. -/
theorem owns_perms {w : World} {base : Nat} {v : Value} {l : List Nat} (h : w.ownsRow base 31 1 v l.length (l.map mkM)) (hn : l ≠ []) : ∃ g cap, v = .slice (some ⟨g, 0, none⟩) l.length cap ∧ g < w.heap.size ∧ (∀ i, i < l.length → w.cell? ⟨g, i, none⟩ = some (.int .i64 (l.getD i 0 : Nat))) := by
  have hc := fun g => @World.ownsRow.cells w base 31 1 v _ _ h g
  have hlt := h.lt
  have hpos : 0 < l.length := by cases l with | nil => exact absurd rfl hn | cons a t => simp
  obtain ⟨h1, h2⟩ := h
  rcases h2 with ⟨_, h2⟩ | ⟨g, cap, cur, hv, _⟩
  · omega
  · subst hv
    refine ⟨g, cap, rfl, (hlt g rfl).2, fun i hi => ?_⟩
    have := hc g rfl i (mkM (l.getD i 0)) (by simp [List.getD, hi])
    have e : (⟨g, 0, none⟩ : Addr).add i = ⟨g, i, none⟩ := by simp [Addr.add]; exact Eq.symm
    rw [e] at this
    exact this

theorem getD_grow (l : List ByteArray) (x : ByteArray) (p : Nat) (h : p < l.length) : (l ++ [x]).getD p ByteArray.empty = l.getD p ByteArray.empty := by
  simp [List.getD, List.getElem?_append_left h]
theorem getD_last (l : List ByteArray) (x : ByteArray) : (l ++ [x]).getD l.length ByteArray.empty = x := by simp [List.getD]

/-- THE LOOP's STATE. -/
structure St (w : World) (N X bR bP bound : Nat) (fR : List UInt8 → Option (Nat × Nat × Nat)) (fP : List UInt8 → Option Nat) (vs vw : Value) (Rs : List ByteArray) (nW : Nat) (ev ob : Nat → Nat) (fo : Nat → List UInt8 → Option Nat) : Prop where
  tab : Tab w N X bR fR vs vw Rs nW ev ob fo
  fine : Fine fR Rs nW ev fo
  rR : ∃ s, RM w bR (fun k => (fR k).map mkE) s ∧ s ≤ bound
  rP : ∃ s, RM w bP (fun k => (fP k).map mkP) s ∧ s ≤ bound + 1
  dPR : bR ≠ bP
  dPo : ∀ i, i < nW → ob i ≠ bP
  pl : ∀ k p, fP k = some p → p < Rs.length ∧ (Rs.getD p ByteArray.empty).data.toList = k
  cR : Rs.length ≤ bound + 1
  cW : nW ≤ bound

section
variable {w w' : World} {N X bR bP bound : Nat} {fR : List UInt8 → Option (Nat × Nat × Nat)} {fP : List UInt8 → Option Nat} {vs vw : Value} {Rs : List ByteArray} {nW : Nat} {ev ob : Nat → Nat} {fo : Nat → List UInt8 → Option Nat}

theorem St.below (h : St w N X bR bP bound fR fP vs vw Rs nW ev ob fo) {B : Nat} (hb : Below B w w') (hB : w.heap.size ≤ B) : St w' N X bR bP bound fR fP vs vw Rs nW ev ob fo where
  tab := h.tab.below hb hB
  fine := h.fine
  rR := by obtain ⟨s, h1, h2⟩ := h.rR; exact ⟨s, h1.block (hb.block _ (Nat.lt_of_lt_of_le h1.lt hB)), h2⟩
  rP := by obtain ⟨s, h1, h2⟩ := h.rP; exact ⟨s, h1.block (hb.block _ (Nat.lt_of_lt_of_le h1.lt hB)), h2⟩
  dPR := h.dPR
  dPo := h.dPo
  pl := h.pl
  cR := h.cR
  cW := h.cW

theorem St.iter (h : St w N X bR bP bound fR fP vs vw Rs nW ev ob fo) {r : Nat} (hr : ∃ a b c d, w.heap[r]? = some (.mapIter a b c d)) (hg : w.grownBy w' (some r)) : St w' N X bR bP bound fR fP vs vw Rs nW ev ob fo := by
  have hne := h.tab.iter_ne hr
  refine { tab := h.tab.iter hr hg, fine := h.fine, rR := ?_, rP := ?_, dPR := h.dPR, dPo := h.dPo, pl := h.pl, cR := h.cR, cW := h.cW }
  · obtain ⟨s, h1, h2⟩ := h.rR; exact ⟨s, h1.block (hg.block _ h1.lt (fun e => hne.2.1 (Option.some.inj e))), h2⟩
  · obtain ⟨s, h1, h2⟩ := h.rP
    refine ⟨s, h1.block (hg.block _ h1.lt (fun e => ?_)), h2⟩
    have e' := Option.some.inj e
    obtain ⟨es, c, hm⟩ := h1.isMap
    obtain ⟨a, b, c', d, hr⟩ := hr
    rw [e', hr] at hm; cases hm

/-- The roles' map is written. -/
theorem St.role (h : St w N X bR bP bound fR fP vs vw Rs nW ev ob fo) {key : List UInt8} {e : Nat × Nat × Nat} {s s' : Nat} (ht : w.mapTurned w' bR) (hR : RM w' bR (updF (fun k => (fR k).map mkE) key (mkE e)) s') (hs : s' ≤ s + 1) (hsb : s ≤ bound)
    (he : e.2.1 < Rs.length ∧ e.2.2 ≤ nW ∧ e.1 < 2 ^ 63) : St w' N X bR bP (bound + 1) (fun k => if k = key then some e else fR k) fP vs vw Rs nW ev ob fo := by
  have hR' : RM w' bR (fun k => ((if k = key then some e else fR k : Option (Nat × Nat × Nat))).map mkE) s' := by
    have e1 : (fun k => ((if k = key then some e else fR k : Option (Nat × Nat × Nat))).map mkE) = updF (fun k => (fR k).map mkE) key (mkE e) := by
      funext k; unfold updF; split <;> rfl
    rw [e1]; exact hR
  refine { tab := h.tab.role ht ⟨s', hR'⟩, fine := ?_, rR := ⟨s', hR', by omega⟩, rP := ?_, dPR := h.dPR, dPo := h.dPo, pl := h.pl, cR := by have := h.cR; omega, cW := by have := h.cW; omega }
  · refine { head := h.fine.head, pos := h.fine.pos, small := h.fine.small, at_ := fun k m p wd hk => ?_, evs := h.fine.evs, fos := h.fine.fos }
    by_cases hkk : k = key
    · rw [if_pos hkk] at hk; obtain rfl := Option.some.inj hk; exact he
    · rw [if_neg hkk] at hk; exact h.fine.at_ k m p wd hk
  · obtain ⟨s2, h1, h2⟩ := h.rP; exact ⟨s2, h1.block (ht.grown.block _ h1.lt (fun e => h.dPR (Option.some.inj e).symm)), by omega⟩

/-- 'wide' has grown by one. -/
theorem St.wide (h : St w N X bR bP bound fR fP vs vw Rs nW ev ob fo) (hb : bound < 4000) {O e : Nat} {fO : List UInt8 → Option Nat} {v' : Value} (hO : ∃ s, RM w O (fun k => (fO k).map mkM) s) (hOR : O ≠ bR) (hOP : O ≠ bP) (he : e < 2 ^ 63) (hfO : ∀ k m, fO k = some m → m < 2 ^ 63)
    (hg : w.grownBy w' vw.ownBlock) (ho : w'.ownsRow N 62 2 v' (nW + 1) (wideCells nW ev ob ++ [.int .i64 (e : Nat), .map (some O)])) :
    St (w'.setCell ⟨X, 2, none⟩ v') N X bR bP (bound + 1) fR fP vs v' Rs (nW + 1) (fun i => if i = nW then e else ev i) (fun i => if i = nW then O else ob i) (fun i => if i = nW then fO else fo i) := by
  have hold : ∀ i, i < nW → ¬ i = nW := fun i hi => by omega
  have ho' : w'.ownsRow N 62 2 v' (nW + 1) (wideCells (nW + 1) (fun i => if i = nW then e else ev i) (fun i => if i = nW then O else ob i)) := by
    rw [wide_succ, wide_congr (ev' := ev) (ob' := ob) (fun i hi => ⟨if_neg (hold i hi), if_neg (hold i hi)⟩), if_pos rfl, if_pos rfl]; exact ho
  refine { tab := h.tab.wid hg ho' (fun i hi => ⟨if_neg (hold i hi), if_neg (hold i hi)⟩) ?_ ?_, fine := ?_, rR := ?_, rP := ?_, dPR := h.dPR, dPo := ?_, pl := h.pl, cR := by have := h.cR; omega, cW := by have := h.cW; omega }
  · obtain ⟨s, hs⟩ := hO; exact ⟨s, by simpa using hs⟩
  · simpa using hOR
  · refine { head := h.fine.head, pos := h.fine.pos, small := ⟨h.fine.small.1, by have := h.cW; omega⟩, at_ := fun k m p wd hk => ?_, evs := fun i hi => ?_, fos := fun i hi => ?_ }
    · have := h.fine.at_ k m p wd hk; exact ⟨this.1, by omega, this.2.2⟩
    · by_cases hi' : i = nW
      · simp only [if_pos hi']; exact he
      · simp only [if_neg hi']; exact h.fine.evs i (by omega)
    · by_cases hi' : i = nW
      · simp only [if_pos hi']; exact hfO
      · simp only [if_neg hi']; exact h.fine.fos i (by omega)
  · obtain ⟨s, h1, h2⟩ := h.rR; exact ⟨s, h1.block (h.tab.wid_map hg h1.isMap), by omega⟩
  · obtain ⟨s, h1, h2⟩ := h.rP; exact ⟨s, h1.block (h.tab.wid_map hg h1.isMap), by omega⟩
  · intro i hi
    by_cases hi' : i = nW
    · simp only [if_pos hi']; exact hOP
    · simp only [if_neg hi']; exact h.dPo i (by omega)

/-- A place more, and 'resources' has grown by one. -/
theorem St.res (h : St w N X bR bP bound fR fP vs vw Rs nW ev ob fo) (hb : bound < 3999) {wp wa : World} {o : Obj} {x : ByteArray} {v' : Value} {s s' : Nat} (ht : w.mapTurned wp bP) (hP : RM wp bP (updF (fun k => (fP k).map mkP) x.data.toList (mkP Rs.length)) s') (hs : s' ≤ s + 1) (hsb : s ≤ bound + 1)
    (hg : (wp.alloc o).grownBy wa vs.ownBlock) (ho : wa.ownsRow N 9 1 v' (Rs.length + 1) (Rs.map Value.string ++ [.string x])) :
    St (wa.setCell ⟨X, 1, none⟩ v') N X bR bP (bound + 1) fR (fun k => if k = x.data.toList then some Rs.length else fP k) v' vw (Rs ++ [x]) nW ev ob fo := by
  have hT1 : Tab (wp.alloc o) N X bR fR vs vw Rs nW ev ob fo := (h.tab.turned ht h.dPR (fun i hi => h.dPo i hi)).below ((Below.refl wp.heap.size wp).alloc (Nat.le_refl _) o) (Nat.le_refl _)
  have hP' : RM wp bP (fun k => ((if k = x.data.toList then some Rs.length else fP k : Option Nat)).map mkP) s' := by
    have e1 : (fun k => ((if k = x.data.toList then some Rs.length else fP k : Option Nat)).map mkP) = updF (fun k => (fP k).map mkP) x.data.toList (mkP Rs.length) := by
      funext k; unfold updF; split <;> rfl
    rw [e1]; exact hP
  refine { tab := hT1.res hg ho, fine := ?_, rR := ?_, rP := ⟨s', ?_, by omega⟩, dPR := h.dPR, dPo := h.dPo, pl := fun k p hk => ?_, cR := by have := h.cR; simp; omega, cW := by have := h.cW; omega }
  · refine { head := ?_, pos := by simp, small := ⟨by have := h.cR; simp; omega, h.fine.small.2⟩, at_ := fun k m p wd hk => ?_, evs := h.fine.evs, fos := h.fine.fos }
    · rw [getD_grow _ _ _ h.fine.pos]; exact h.fine.head
    · have := h.fine.at_ k m p wd hk; exact ⟨by simp; omega, this.2⟩
  · obtain ⟨s2, h1, h2⟩ := h.rR
    have h3 : RM (wp.alloc o) bR (fun k => (fR k).map mkE) s2 := h1.block ((Below.heap_alloc wp o _ (by have := h1.lt; have := ht.grown.size; omega)).trans (ht.grown.block _ h1.lt (fun e => h.dPR (Option.some.inj e))))
    exact ⟨s2, h3.block (hT1.res_map hg h3.isMap), by omega⟩
  · have h3 : RM (wp.alloc o) bP _ s' := hP'.block (Below.heap_alloc wp o _ hP'.lt)
    exact h3.block (hT1.res_map hg h3.isMap)
  · by_cases hkx : k = x.data.toList
    · rw [if_pos hkx] at hk; cases hk; exact ⟨by simp, by rw [getD_last, hkx]⟩
    · rw [if_neg hkx] at hk; have := h.pl k p hk; exact ⟨by simp; omega, by rw [getD_grow _ _ _ this.1]; exact this.2⟩

/-- What the table says of another role does not turn. -/
theorem said_other {key k : List UInt8} (hk : k ≠ key) (e : Nat × Nat × Nat) (r : List UInt8) : said (fun x => if x = key then some e else fR x) Rs ev fo k r = said fR Rs ev fo k r := by
  unfold said; simp only [if_neg hk]
theorem said_grow (F : Fine fR Rs nW ev fo) {Rs' : List ByteArray} {ev' : Nat → Nat} {fo' : Nat → List UInt8 → Option Nat} (hR : ∀ p, p < Rs.length → Rs'.getD p ByteArray.empty = Rs.getD p ByteArray.empty) (he : ∀ i, i < nW → ev' i = ev i ∧ fo' i = fo i) (k r : List UInt8) : said fR Rs' ev' fo' k r = said fR Rs ev fo k r := by
  unfold said
  cases hf : fR k with
  | none => rfl
  | some e =>
    obtain ⟨m, p, wd⟩ := e
    have ha := F.at_ k m p wd hf
    simp only
    by_cases hw : wd = 0
    · rw [if_pos hw, if_pos hw, hR p ha.1]
    · rw [if_neg hw, if_neg hw, (he (wd - 1) (by omega)).1, (he (wd - 1) (by omega)).2]
theorem said_new {key : List UInt8} (m p wd : Nat) (r : List UInt8) : said (fun x => if x = key then some (m, p, wd) else fR x) Rs ev fo key r = if wd = 0 then (if (Rs.getD p ByteArray.empty).data.toList = r ∨ (Rs.getD p ByteArray.empty).data.toList = Pl.resL 0 then m else 0) else ev (wd - 1) ||| (fo (wd - 1) r).getD 0 := by
  unfold said; simp only [if_true]

end

/-- What has been done, as a function of what is still to come. -/
def Cor (pm : Nat → Nat → List Nat) (left : List UInt8 → Bool) (fR : List UInt8 → Option (Nat × Nat × Nat)) (Rs : List ByteArray) (ev : Nat → Nat) (fo : Nat → List UInt8 → Option Nat) : Prop :=
  ∀ key, (left key = true → fR key = none) ∧ (left key = false → ∀ r, said fR Rs ev fo key r = Pl.Sp pm key r)

theorem strike_self (left : List UInt8 → Bool) (k : List UInt8) : strike left k k = false := by simp [strike]
theorem strike_other (left : List UInt8 → Bool) {k x : List UInt8} (h : x ≠ k) : strike left k x = left x := by simp [strike, h]

/-- One role more is done. -/
theorem Cor.step {pm : Nat → Nat → List Nat} {left : List UInt8 → Bool} {fR fR' : List UInt8 → Option (Nat × Nat × Nat)} {Rs Rs' : List ByteArray} {ev ev' : Nat → Nat} {fo fo' : Nat → List UInt8 → Option Nat} (h : Cor pm left fR Rs ev fo) {key : List UInt8}
    (hf : ∀ k, k ≠ key → fR k = none → fR' k = none) (hs : ∀ k r, k ≠ key → said fR' Rs' ev' fo' k r = said fR Rs ev fo k r) (hk : ∀ r, said fR' Rs' ev' fo' key r = Pl.Sp pm key r) : Cor pm (strike left key) fR' Rs' ev' fo' := by
  intro k
  by_cases hkk : k = key
  · subst hkk
    exact ⟨fun h1 => (by rw [strike_self] at h1; exact Bool.noConfusion h1), fun _ => hk⟩
  · rw [strike_other left hkk]
    exact ⟨fun h1 => hf k hkk ((h k).1 h1), fun h1 r => (hs k r hkk).trans ((h k).2 h1 r)⟩

/-- The masks of a wide role under way, as a function of what is still to come. -/
def WM (pj : Nat → List Nat) (left : List UInt8 → Bool) (e : Nat) (fO : List UInt8 → Option Nat) : Prop :=
  e = (if left (Pl.resL 0) = true then 0 else Pl.Mk (pj 0)) ∧ ∀ key, fO key = match Pl.resIdx key with | some k => if k = 0 ∨ pj k = [] ∨ left key = true then none else some (Pl.Mk (pj k)) | none => none

theorem WM.start (pj : Nat → List Nat) (Vj : Nat → Value) : WM pj (fun k => (innerF Vj pj k).isSome) 0 (fun _ => none) := by
  constructor
  · show 0 = if (innerF Vj pj (Pl.resL 0)).isSome = true then 0 else Pl.Mk (pj 0)
    rw [inner_at (by omega)]
    by_cases h : pj 0 = []
    · rw [if_pos h, h]; rfl
    · rw [if_neg h]; rfl
  · intro key
    cases hr : Pl.resIdx key with
    | none => rfl
    | some k =>
      simp only
      have hk := Pl.resIdx_some hr
      by_cases h : pj k = []
      · rw [if_pos (.inr (.inl h))]
      · rw [if_pos (.inr (.inr (by show (innerF Vj pj key).isSome = true; rw [hk.1, inner_at hk.2, if_neg h]; rfl)))]

theorem WM.zero {pj : Nat → List Nat} {left : List UInt8 → Bool} {e : Nat} {fO : List UInt8 → Option Nat} (h : WM pj left e fO) : WM pj (strike left (Pl.resL 0)) (Pl.Mk (pj 0)) fO := by
  constructor
  · rw [strike_self]; rfl
  · intro key
    rw [h.2 key]
    cases hr : Pl.resIdx key with
    | none => rfl
    | some k =>
      simp only
      by_cases hk : key = Pl.resL 0
      · have : k = 0 := by rw [hk, Pl.resIdx_resL 0 (by omega)] at hr; exact (Option.some.inj hr).symm
        rw [if_pos (.inl this), if_pos (.inl this)]
      · rw [strike_other left hk]

theorem WM.put {pj : Nat → List Nat} {left : List UInt8 → Bool} {e : Nat} {fO : List UInt8 → Option Nat} (h : WM pj left e fO) {k : Nat} (hk : k < 4) (h0 : k ≠ 0) (hp : pj k ≠ []) : WM pj (strike left (Pl.resL k)) e (fun x => if x = Pl.resL k then some (Pl.Mk (pj k)) else fO x) := by
  constructor
  · rw [strike_other left (fun e => h0 (Pl.resL_inj (by omega) hk e).symm)]; exact h.1
  · intro key
    show (if key = Pl.resL k then some (Pl.Mk (pj k)) else fO key) = _
    by_cases hx : key = Pl.resL k
    · rw [if_pos hx, hx, Pl.resIdx_resL k hk]
      simp only
      rw [if_neg (fun hh => by rcases hh with hh | hh | hh; exact h0 hh; exact hp hh; rw [strike_self] at hh; exact Bool.noConfusion hh)]
    · rw [if_neg hx, h.2 key, strike_other left hx]

theorem WM.done {pm : Nat → Nat → List Nat} {j : Nat} (hj : j < 4) {left : List UInt8 → Bool} {e : Nat} {fO : List UInt8 → Option Nat} (h : WM (pm j) left e fO) (hl : ∀ k, left k = false) (r : List UInt8) : e ||| (fO r).getD 0 = Pl.Sp pm (Pl.roleL j) r := by
  rw [Pl.Sp_some (Pl.roleIdx_roleL j hj), h.2 r, h.1, hl]
  cases hr : Pl.resIdx r with
  | none => rfl
  | some k =>
    simp only [hl]
    by_cases h0 : k = 0
    · subst h0; simp
    · by_cases hp : pm j k = []
      · simp [hp, Pl.Mk_nil]
      · simp [h0, hp]

theorem WM.lt {pj : Nat → List Nat} {left : List UInt8 → Bool} {e : Nat} {fO : List UInt8 → Option Nat} (h : WM pj left e fO) (hp : ∀ k, Pl.Mk (pj k) < 2 ^ 63) : e < 2 ^ 63 ∧ ∀ k m, fO k = some m → m < 2 ^ 63 := by
  constructor
  · rw [h.1]; split
    · decide
    · exact hp 0
  · intro k m hm
    rw [h.2 k] at hm
    cases hr : Pl.resIdx k with
    | none => rw [hr] at hm; cases hm
    | some q =>
      rw [hr] at hm
      simp only at hm
      split at hm
      · cases hm
      · cases hm; exact hp q

/-- A role that names one resource, or none, under way: nothing is done yet; or all is. -/
def NarrowSt (pm : Nat → Nat → List Nat) (j sj cnt : Nat) (left : List UInt8 → Bool) (inner : List UInt8 → Option Value) (fR fR' : List UInt8 → Option (Nat × Nat × Nat)) (Rs Rs' : List ByteArray) (ev : Nat → Nat) (fo : Nat → List UInt8 → Option Nat) (bound bound' : Nat) : Prop :=
  (∀ k q, k ≠ Pl.roleL j → said fR' Rs' ev fo k q = said fR Rs ev fo k q) ∧ (∀ k, k ≠ Pl.roleL j → fR k = none → fR' k = none) ∧
  ((cnt = sj ∧ bound' = bound ∧ (∀ key, left key = (inner key).isSome) ∧ fR' (Pl.roleL j) = none) ∨ (cnt = 0 ∧ bound' ≤ bound + 2 ∧ ∀ q, said fR' Rs' ev fo (Pl.roleL j) q = Pl.Sp pm (Pl.roleL j) q))

/-- At the inner loop's end. -/
theorem NarrowSt.done {pm : Nat → Nat → List Nat} {j sj cnt : Nat} (hj : j < 4) {Vj : Nat → Value} {left left2 : List UInt8 → Bool} {fR fR' : List UInt8 → Option (Nat × Nat × Nat)} {Rs Rs' : List ByteArray} {ev : Nat → Nat} {fo : Nat → List UInt8 → Option Nat} {bound bound' : Nat}
    (h : NarrowSt pm j sj cnt left2 (innerF Vj (pm j)) fR fR' Rs Rs' ev fo bound bound') (hp4 : ∀ k, ¬ k < 4 → pm j k = []) (hl : ∀ k, left2 k = false) (hc : Cor pm left fR Rs ev fo) : Cor pm (strike left (Pl.roleL j)) fR' Rs' ev fo ∧ bound' ≤ bound + 2 := by
  obtain ⟨h1, h2, h3⟩ := h
  refine ⟨Cor.step hc h2 (fun k q hk => h1 k q hk) (fun q => ?_), by rcases h3 with h3 | h3 <;> omega⟩
  rcases h3 with ⟨_, _, h3, h4⟩ | ⟨_, _, h3⟩
  · have he : ∀ k, pm j k = [] := fun k => by
      by_cases hk : k < 4
      · have := h3 (Pl.resL k)
        rw [hl, inner_at hk] at this
        by_cases hp : pm j k = []
        · exact hp
        · rw [if_neg hp] at this; cases this
      · exact hp4 k hk
    have e1 : said fR' Rs' ev fo (Pl.roleL j) q = 0 := by unfold said; rw [h4]
    rw [e1, Pl.Sp_some (Pl.roleIdx_roleL j hj), he 0]
    split
    · rw [he]; rfl
    · rfl
  · exact h3 q

/-- Behind the one round. -/
theorem narrow_spec {pm : Nat → Nat → List Nat} {j k : Nat} (hj : j < 4) (hk : k < 4) (ho : ∀ i, i ≠ k → pm j i = []) (q : List UInt8) : (if Pl.resL k = q ∨ Pl.resL k = Pl.resL 0 then Pl.Mk (pm j k) else 0) = Pl.Sp pm (Pl.roleL j) q := by
  rw [Pl.Sp_some (Pl.roleIdx_roleL j hj)]
  by_cases h0 : k = 0
  · subst h0
    rw [if_pos (.inr rfl)]
    cases hr : Pl.resIdx q with
    | none => simp
    | some i =>
      simp only
      by_cases hi : i = 0
      · subst hi; simp
      · rw [ho i hi, Pl.Mk_nil]; simp
  · rw [ho 0 (fun e => h0 e.symm), Pl.Mk_nil]
    have hne : Pl.resL k ≠ Pl.resL 0 := fun e => h0 (Pl.resL_inj hk (by omega) e)
    cases hr : Pl.resIdx q with
    | none =>
      rw [if_neg (fun h => h.elim (fun h => by rw [(Pl.resL_iff hk q).1 h] at hr; cases hr) hne)]; simp
    | some i =>
      simp only
      by_cases hi : i = k
      · subst hi
        rw [if_pos (.inl ((Pl.resL_iff hk q).2 hr))]; simp
      · rw [ho i hi, Pl.Mk_nil, if_neg (fun h => h.elim (fun h => hi (by have := (Pl.resL_iff hk q).1 h; rw [hr] at this; exact Option.some.inj this)) hne)]; rfl

end Go.Proofs.YbulkdzqsFmt

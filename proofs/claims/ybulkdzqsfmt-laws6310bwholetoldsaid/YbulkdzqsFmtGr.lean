/-
  Seat b6310aF: what the law's first loop does to the grants in memory.
-/
import Derived.Test.YbulkdzqsFmtNew0
import Derived.Maps.AppendAt
namespace Go.Proofs.YbulkdzqsFmt
open Go.RowKit Go.Maps

/-- append, as one step of a region that draws, with where the new slice lies. -/
theorem step_append_own_at {P : Program} {ops : Array Oper} {o : Oper} {a : Act} {w : World} {K : Act → World → Prop} {Q : Exit → Act → World → Prop} {E : Prop}
    (hg : o.guard = none) (s x : Operand) (t : TypeId) (ho : o.op = .call { callee := .builtin .append, args := #[s, x], argTypes := #[t, t] })
    (base : Nat) (e : TypeId) (i : TypeInfo) (z : Value) (size bytes : Nat) (ht : P.underlying t = some (.slice e)) (hi : P.info? e = some i) (hz : i.zero = some z)
    (hsize : i.size = size) (hby : i.bytes = bytes) (hzs : z.cells.size = size) (hsz : 0 < size)
    (v : Value) (n : Nat) (xs : List Value) (hs : a.eval s = v) (hown : w.ownsRow base e size v n xs)
    (ad : Addr) (m c : Nat) (news : List Value) (hx : a.eval x = .slice (some ad) m c) (hl : news.length = m * size) (hnews : ∀ j u, news[j]? = some u → w.cell? (ad.add j) = some u) (h1 : ∀ u ∈ news, u.oneCell' = true)
    (h63 : n + m ≤ maxLen) (hbytes : (n + m) * bytes ≤ 140737488355328) (hbase : base ≤ w.heap.size)
    (h : ∀ v' w', w'.ownsRow base e size v' (n + m) (xs ++ news) → w.grownBy w' v.ownBlock → (v'.ownBlock = v.ownBlock ∨ v'.ownBlock = some w.heap.size) → K (a.put o.dst v') w') :
    if Region.wanted o (yielded ops a.tmps) = true then Oper.wp P o a w K Q else E := by
  have hw : Region.wanted o (yielded ops a.tmps) = true := by simp [Region.wanted, hg]
  rw [if_pos hw]
  obtain ⟨v', w', hr, h2, h3, h4, h5⟩ := run_append_own_at (P := P) w base t o.type e i z size bytes ht hi hz hsize hby hzs hsz v n xs hown ad m c news hl hnews h1 h63 hbytes hbase
  unfold Oper.wp execOp
  simp only [ho, resolve, invoke, builtin, Sem.run_bind, Sem.run_pure, Result.andThen_ok, List.map_toArray, List.map_cons, List.map_nil, hs, hx, hr]
  exact h v' w' h2 h3 h5

section
variable {w w' : World} {base bG : Nat} {B : Nat → Nat} {V : Nat → Nat → Value} {nm nm' : Nat → Bool} {pm pm' : Nat → Nat → List Nat} {lim : Nat}

theorem Gr.start (w : World) (B : Nat → Nat) (V : Nat → Nat → Value) {nm : Nat → Bool} {pm : Nat → Nat → List Nat} (hn : ∀ j, nm j = false) (hp : ∀ j k, pm j k = []) : Gr (w.alloc (.map #[] 0)) w.heap.size w.heap.size B V nm pm 0 where
  hG := ⟨0, by
    have e : outerF B nm = fun _ => none := by
      funext key; unfold outerF; cases Pl.roleIdx key with
      | none => rfl
      | some j => simp [hn]
    rw [e]; exact RM.made w, Nat.le_refl _⟩
  hI := fun j _ h => by rw [hn] at h; cases h
  hV := fun j k _ _ h => absurd (hp j k) h
  hlen := fun j k => by rw [hp]; simp
  h63 := fun j k p h => by rw [hp] at h; cases h
  hnm := fun j k h => absurd (hp j k) h
  hk4 := fun j k h => absurd (hp j k) h
  dG := fun j _ h => by rw [hn] at h; cases h
  dB := fun i j _ _ h => by rw [hn] at h; cases h
  dV := fun i k j l _ _ _ _ h => absurd (hp i k) h
  lo := ⟨Nat.le_refl _, fun j _ h => by rw [hn] at h; cases h⟩

theorem Gr.ltG (h : Gr w base bG B V nm pm lim) : bG < w.heap.size := by obtain ⟨s, h1, _⟩ := h.hG; exact h1.lt
theorem Gr.ltB (h : Gr w base bG B V nm pm lim) {j : Nat} (hj : j < 4) (hn : nm j = true) : B j < w.heap.size := by obtain ⟨s, h1, _⟩ := h.hI j hj hn; exact h1.lt

theorem Gr.keep (h : Gr w base bG B V nm pm lim) (hb : ∀ b, b < w.heap.size → w'.heap[b]? = w.heap[b]?) : Gr w' base bG B V nm pm lim :=
  { h with
    hG := by obtain ⟨s, h1, h2⟩ := h.hG; exact ⟨s, h1.block (hb _ h1.lt), h2⟩
    hI := fun j hj hn => by obtain ⟨s, h1, h2⟩ := h.hI j hj hn; exact ⟨s, h1.block (hb _ h1.lt), h2⟩
    hV := fun j k hj hk hp => owns_block (h.hV j k hj hk hp) (fun g hg => hb g ((h.hV j k hj hk hp).lt g hg).2) }

theorem Gr.lift (h : Gr w base bG B V nm pm lim) {lim' : Nat} (hl : lim ≤ lim') : Gr w base bG B V nm pm lim' :=
  { h with
    hG := by obtain ⟨s, h1, h2⟩ := h.hG; exact ⟨s, h1, by omega⟩
    hI := fun j hj hn => by obtain ⟨s, h1, h2⟩ := h.hI j hj hn; exact ⟨s, h1, by omega⟩
    hlen := fun j k => by have := h.hlen j k; omega }

/-- The same, told by another name. -/
theorem Gr.same (h : Gr w base bG B V nm pm lim) (e1 : nm = nm') (e2 : pm = pm') : Gr w base bG B V nm' pm' lim := by subst e1; subst e2; exact h

/-- 'grants[role] = map[string][]Permission{}'. -/
theorem Gr.name (h : Gr w base bG B V nm pm lim) {j : Nat} (hj : j < 4) (hn : nm j = false) {w2 : World} {s' : Nat} (hbase : base ≤ w.heap.size)
    (hR : RM w2 bG (updF (outerF B nm) (Pl.roleL j) (.map (some w.heap.size))) s') (hs : s' ≤ lim + 1) (ht : (w.alloc (.map #[] 0)).mapTurned w2 bG) (hnm' : ∀ i, nm' i = (nm i || j == i)) :
    Gr w2 base bG (fun i => if i = j then w.heap.size else B i) V nm' pm (lim + 1) := by
  have hpj : ∀ k, pm j k = [] := fun k => Classical.byContradiction fun hp => by have := h.hnm j k hp; rw [hn] at this; cases this
  have hbG := h.ltG
  have hblk : ∀ b, b < w.heap.size → b ≠ bG → w2.heap[b]? = w.heap[b]? := fun b hb hne => (ht.grown.block b (by simp; omega) (fun e => hne (Option.some.inj e))).trans (Below.heap_alloc w _ b hb)
  have hold : ∀ i, i ≠ j → nm' i = true → nm i = true := fun i hi h1 => by
    rw [hnm' i] at h1
    have : (j == i) = false := by simp; omega
    rw [this] at h1; simpa using h1
  refine { hG := ⟨s', ?_, hs⟩, hI := fun i hi hni => ?_, hV := fun a b ha hb hp => ?_, hlen := fun a b => by have := h.hlen a b; omega, h63 := h.h63, hnm := fun a b hp => by rw [hnm', h.hnm a b hp]; rfl, hk4 := h.hk4, dG := fun i hi hni => ?_, dB := fun a b ha hb hna hnb hab => ?_, dV := h.dV, lo := ⟨h.lo.1, fun i hi hni => ?_⟩ }
  · have e : outerF (fun i => if i = j then w.heap.size else B i) nm' = updF (outerF B nm) (Pl.roleL j) (.map (some w.heap.size)) := by
      funext key
      unfold updF outerF
      cases hr : Pl.roleIdx key with
      | none =>
        rw [if_neg (fun e => by rw [e, Pl.roleIdx_roleL j hj] at hr; cases hr)]
      | some i =>
        have hri := Pl.roleIdx_some hr
        simp only
        by_cases hij : i = j
        · subst hij
          rw [if_pos hri.1, hnm']; simp
        · rw [if_neg (fun e => hij (Pl.roleL_inj hri.2 hj (hri.1.symm.trans e))), hnm']
          have : (j == i) = false := by simp; omega
          rw [this]; simp [hij]
    rw [e]; exact hR
  · by_cases hij : i = j
    · subst hij
      refine ⟨0, ?_, Nat.zero_le _⟩
      simp only [if_true]
      have e : innerF (V i) (pm i) = fun _ => none := by
        funext key; unfold innerF; cases Pl.resIdx key with
        | none => rfl
        | some k => simp [hpj]
      rw [e]
      exact (RM.made w).block (ht.grown.block _ (by simp) (fun e => by have := Option.some.inj e; omega))
    · simp only [if_neg hij]
      have hni' := hold i hij hni
      obtain ⟨s, h1, h2⟩ := h.hI i hi hni'
      exact ⟨s, h1.block (hblk _ h1.lt (h.dG i hi hni')), by omega⟩
  · refine owns_block (h.hV a b ha hb hp) (fun g hg => hblk g ((h.hV a b ha hb hp).lt g hg).2 (fun e => ?_))
    obtain ⟨cur, hc, _⟩ := row_obj (h.hV a b ha hb hp) hg
    obtain ⟨s, h1, _⟩ := h.hG
    obtain ⟨es, c, hm⟩ := h1.isMap
    rw [e, hm] at hc; cases hc
  · by_cases hij : i = j
    · simp only [if_pos hij]; omega
    · simp only [if_neg hij]; exact h.dG i hi (hold i hij hni)
  · by_cases haj : a = j
    · have hbj : ¬ b = j := fun e => hab (haj.trans e.symm)
      simp only [if_pos haj, if_neg hbj]
      have := h.ltB hb (hold b hbj hnb); omega
    · by_cases hbj : b = j
      · simp only [if_neg haj, if_pos hbj]
        have := h.ltB ha (hold a haj hna); omega
      · simp only [if_neg haj, if_neg hbj]
        exact h.dB a b ha hb (hold a haj hna) (hold b hbj hnb) hab
  · by_cases hij : i = j
    · simp only [if_pos hij]; exact hbase
    · simp only [if_neg hij]; exact h.lo.2 i hi (hold i hij hni)

/-- The row that 'grants[role][res]' holds, or nil. -/
def rowAt (V : Nat → Nat → Value) (pm : Nat → Nat → List Nat) (j k : Nat) : Value := if pm j k = [] then .slice none 0 0 else V j k

theorem Gr.owns (h : Gr w base bG B V nm pm lim) {j k : Nat} (hj : j < 4) (hk : k < 4) : w.ownsRow base 31 1 (rowAt V pm j k) (pm j k).length ((pm j k).map mkM) := by
  unfold rowAt
  by_cases hp : pm j k = []
  · rw [if_pos hp, hp]; exact World.ownsRow_nil _ _ _ _
  · rw [if_neg hp]; exact h.hV j k hj hk hp

/-- A map's block is no row's. -/
theorem Gr.map_row (h : Gr w base bG B V nm pm lim) {j k b : Nat} (hj : j < 4) (hk : k < 4) (hb : ∃ es c, w.heap[b]? = some (.map es c)) : some b ≠ (rowAt V pm j k).ownBlock := fun e => by
  obtain ⟨es, c, hm⟩ := hb
  obtain ⟨cur, hc, _⟩ := row_obj (h.owns hj hk) e.symm
  rw [hm] at hc; cases hc

/-- 'grants[role][res] = append(grants[role][res], p)'. -/
theorem Gr.push (h : Gr w base bG B V nm pm lim) {j k p : Nat} (hj : j < 4) (hk : k < 4) (hn : nm j = true) (hp : p < 63) {wd wa w2 : World} {v' : Value} {s' : Nat}
    (hwd : ∀ b, b < w.heap.size → wd.heap[b]? = w.heap[b]?) (hsz : w.heap.size ≤ wd.heap.size) (hg : wd.grownBy wa (rowAt V pm j k).ownBlock) (hat : v'.ownBlock = (rowAt V pm j k).ownBlock ∨ v'.ownBlock = some wd.heap.size)
    (ho : wa.ownsRow base 31 1 v' ((pm j k).length + 1) ((pm j k).map mkM ++ [mkM p])) (hR : RM w2 (B j) (updF (innerF (V j) (pm j)) (Pl.resL k) v') s') {lim' : Nat} (hs : s' ≤ lim') (hll : lim ≤ lim') (hl1 : (pm j k).length + 1 ≤ lim') (ht : wa.mapTurned w2 (B j))
    (hpm : ∀ a b, pm' a b = if a = j ∧ b = k then pm a b ++ [p] else pm a b) :
    Gr w2 base bG B (fun a b => if a = j ∧ b = k then v' else V a b) nm pm' lim' := by
  have hBj := h.ltB hj hn
  have hmapB : ∃ es c, w.heap[B j]? = some (.map es c) := by obtain ⟨s, h1, _⟩ := h.hI j hj hn; exact h1.isMap
  have hmap : ∀ b, (∃ es c, w.heap[b]? = some (.map es c)) → b ≠ B j → w2.heap[b]? = w.heap[b]? := fun b hb hne => by
    have hlt : b < w.heap.size := by obtain ⟨es, c, hm⟩ := hb; exact (Array.getElem?_eq_some_iff.1 hm).1
    have h1 := hg.block b (by omega) (h.map_row hj hk hb)
    have h2 := ht.grown.block b (by have := hg.size; omega) (fun e => hne (Option.some.inj e))
    exact h2.trans (h1.trans (hwd b hlt))
  have hvs : ∃ g, v'.ownBlock = some g := by
    obtain ⟨_, h2⟩ := ho
    rcases h2 with ⟨_, h2⟩ | ⟨g, cap, cur, hv, _⟩
    · omega
    · exact ⟨g, by rw [hv]; rfl⟩
  have hne : ∀ a b, ¬ (a = j ∧ b = k) → pm' a b = pm a b := fun a b hab => by rw [hpm, if_neg hab]
  have hnil : ∀ a b, pm' a b ≠ [] → (a = j ∧ b = k) ∨ pm a b ≠ [] := fun a b hp' => by
    by_cases hab : a = j ∧ b = k
    · exact .inl hab
    · rw [hne a b hab] at hp'; exact .inr hp'
  refine { hG := ?_, hI := fun i hi hni => ?_, hV := fun a b ha hb hp' => ?_, hlen := fun a b => ?_, h63 := fun a b q hq => ?_, hnm := fun a b hp' => ?_, hk4 := fun a b hp' => ?_, dG := h.dG, dB := h.dB, dV := fun a b c d ha hb hc hd hp1 hp2 hne2 => ?_, lo := h.lo }
  · obtain ⟨s, h1, h2⟩ := h.hG; exact ⟨s, h1.block (hmap _ h1.isMap (fun e => h.dG j hj hn e.symm)), by omega⟩
  · by_cases hij : i = j
    · subst hij
      refine ⟨s', ?_, hs⟩
      have e : innerF (fun b => if i = i ∧ b = k then v' else V i b) (pm' i) = updF (innerF (V i) (pm i)) (Pl.resL k) v' := by
        funext key
        unfold updF innerF
        cases hr : Pl.resIdx key with
        | none => rw [if_neg (fun e => by rw [e, Pl.resIdx_resL k hk] at hr; cases hr)]
        | some q =>
          have hri := Pl.resIdx_some hr
          simp only
          by_cases hq : q = k
          · subst hq
            have e3 : pm' i q = pm i q ++ [p] := by rw [hpm, if_pos ⟨rfl, rfl⟩]
            rw [if_pos hri.1]; simp [e3]
          · rw [if_neg (fun e => hq (Pl.resL_inj hri.2 hk (hri.1.symm.trans e))), hne i q (fun e => hq e.2)]
            simp [hq]
      show RM w2 (B i) (innerF (fun b => if i = i ∧ b = k then v' else V i b) (pm' i)) s'
      rw [e]; exact hR
    · obtain ⟨s, h1, h2⟩ := h.hI i hi hni
      refine ⟨s, ?_, by omega⟩
      have e : innerF (fun b => if i = j ∧ b = k then v' else V i b) (pm' i) = innerF (V i) (pm i) := by
        have e1 : (fun b => if i = j ∧ b = k then v' else V i b) = V i := by funext b; rw [if_neg (fun e => hij e.1)]
        have e2 : pm' i = pm i := by funext b; exact hne i b (fun e => hij e.1)
        rw [e1, e2]
      show RM w2 (B i) (innerF (fun b => if i = j ∧ b = k then v' else V i b) (pm' i)) s
      rw [e]; exact h1.block (hmap _ h1.isMap (h.dB i j hi hj hni hn hij))
  · by_cases hab : a = j ∧ b = k
    · obtain ⟨rfl, rfl⟩ := hab
      rw [hpm, if_pos ⟨rfl, rfl⟩]
      simp only [and_self, if_true]
      rw [List.length_append, List.map_append]
      refine owns_block ho (fun g hgv => ht.grown.block g (ho.lt g hgv).2 (fun e => ?_))
      obtain ⟨cur, hc, _⟩ := row_obj ho hgv
      obtain ⟨es, c, _, _, hm, _⟩ := ht
      rw [Option.some.inj e, hm] at hc; cases hc
    · rw [hne a b hab] at hp' ⊢
      simp only [if_neg hab]
      have hr := h.hV a b ha hb hp'
      refine owns_block hr (fun g hgv => ?_)
      have hlt := (hr.lt g hgv).2
      obtain ⟨cur, hc, _⟩ := row_obj hr hgv
      have h1 := hg.block g (by omega) (fun e => by
        unfold rowAt at e
        by_cases hpj : pm j k = []
        · rw [if_pos hpj] at e; cases e
        · rw [if_neg hpj] at e; exact h.dV a b j k ha hb hj hk hp' hpj hab (hgv.trans e))
      have h2 := ht.grown.block g (by have := hg.size; omega) (fun e => by
        obtain ⟨es, c, hm⟩ := hmapB
        rw [Option.some.inj e, hm] at hc; cases hc)
      exact h2.trans (h1.trans (hwd g hlt))
  · rw [hpm]; split
    · rename_i hab; rw [hab.1, hab.2]; simpa using hl1
    · have := h.hlen a b; omega
  · rw [hpm] at hq
    split at hq
    · rw [List.mem_append] at hq
      rcases hq with hq | hq
      · exact h.h63 a b q hq
      · simp at hq; omega
    · exact h.h63 a b q hq
  · rcases hnil a b hp' with ⟨rfl, rfl⟩ | hq
    · exact hn
    · exact h.hnm a b hq
  · rcases hnil a b hp' with ⟨rfl, rfl⟩ | hq
    · exact hk
    · exact h.hk4 a b hq
  · have key : ∀ a b, a < 4 → b < 4 → ¬ (a = j ∧ b = k) → pm' a b ≠ [] → v'.ownBlock ≠ (V a b).ownBlock := fun a b ha hb hab hp' e => by
      rw [hne a b hab] at hp'
      obtain ⟨g, hgv⟩ := hvs
      have hlt := ((h.hV a b ha hb hp').lt g (e.symm.trans hgv)).2
      rcases hat with hat | hat
      · unfold rowAt at hat
        by_cases hpj : pm j k = []
        · rw [if_pos hpj, hgv] at hat; cases hat
        · rw [if_neg hpj] at hat; exact h.dV j k a b hj hk ha hb hpj hp' (fun e2 => hab ⟨e2.1.symm, e2.2.symm⟩) (hat.symm.trans e)
      · rw [hgv] at hat; have := Option.some.inj hat; omega
    by_cases hab : a = j ∧ b = k
    · have hcd : ¬ (c = j ∧ d = k) := fun e => hne2 ⟨hab.1.trans e.1.symm, hab.2.trans e.2.symm⟩
      simp only [if_pos hab, if_neg hcd]
      exact key c d hc hd hcd hp2
    · by_cases hcd : c = j ∧ d = k
      · simp only [if_neg hab, if_pos hcd]
        exact fun e => key a b ha hb hab hp1 e.symm
      · simp only [if_neg hab, if_neg hcd]
        exact h.dV a b c d ha hb hc hd (by rw [← hne a b hab]; exact hp1) (by rw [← hne c d hcd]; exact hp2) hne2
end

end Go.Proofs.YbulkdzqsFmt

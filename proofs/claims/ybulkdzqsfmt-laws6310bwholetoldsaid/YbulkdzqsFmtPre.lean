/-
  Seat b6310aF: what the law's walk leans on.
-/
import Derived.Test.YbulkdzqsFmtGr
import Derived.Test.YbulkdzqsFmtNew
namespace Go.Proofs.YbulkdzqsFmt
open Go.RowKit Go.Maps

/-- The grants that came in. -/
def Ls (r s p : Nat → Nat) (n : Nat) : List (Nat × Nat × Nat) := (List.range n).map fun i => (r i % 4, s i % 4, p i % 64)
theorem Ls_succ (r s p : Nat → Nat) (n : Nat) : Ls r s p (n + 1) = Ls r s p n ++ [(r n % 4, s n % 4, p n % 64)] := by simp [Ls, List.range_succ]
def Xs (q : Nat → Nat) (n : Nat) : List ByteArray := (List.range n).map fun i => roleS (q i % 6)
theorem Xs_succ (q : Nat → Nat) (n : Nat) : Xs q (n + 1) = Xs q n ++ [roleS (q n % 6)] := by simp [Xs, List.range_succ]
theorem Xs_len (q : Nat → Nat) (n : Nat) : (Xs q n).length = n := by simp [Xs]

theorem zero29 (w : World) : (zeroValue 29).run Ybaf.prog w = .ok (.map none) w := by kernel_rfl
theorem zero30 (w : World) : (zeroValue 30).run Ybaf.prog w = .ok (.slice none 0 0) w := by kernel_rfl
theorem Ybaf.info31 : (Ybaf.prog.info? 31).map (fun i => (i.zero, i.size, i.bytes)) = some (some (.int .i64 0), 1, 8) := by kernel_rfl

/-- Where the grants lie. -/
def LiesG (w : World) (a : Option Addr) (n : Nat) (r s p : Nat → Nat) : Prop :=
  n = 0 ∨ ∃ b o, a = some ⟨b, o, none⟩ ∧ ∀ i, i < n → w.cell? ⟨b, o + i * 3, none⟩ = some (.int .u8 (r i : Nat)) ∧ w.cell? ⟨b, o + i * 3 + 1, none⟩ = some (.int .u8 (s i : Nat)) ∧ w.cell? ⟨b, o + i * 3 + 2, none⟩ = some (.int .u8 (p i : Nat))
def LiesB (w : World) (a : Option Addr) (n : Nat) (q : Nat → Nat) : Prop :=
  n = 0 ∨ ∃ b o, a = some ⟨b, o, none⟩ ∧ ∀ i, i < n → w.cell? ⟨b, o + i, none⟩ = some (.int .u8 (q i : Nat))

theorem LiesG.below {w w' : World} {a : Option Addr} {n : Nat} {r s p : Nat → Nat} (h : LiesG w a n r s p) (hb : Below w.heap.size w w') : LiesG w' a n r s p := by
  rcases h with h | ⟨b, o, h1, h2⟩
  · exact .inl h
  · refine .inr ⟨b, o, h1, fun i hi => ?_⟩
    obtain ⟨c1, c2, c3⟩ := h2 i hi
    have hl : b < w.heap.size := World.block_lt_of_cell? w _ c1
    exact ⟨(hb.cell (by exact hl)).trans c1, (hb.cell (by exact hl)).trans c2, (hb.cell (by exact hl)).trans c3⟩

theorem role4j (x j : Nat) (hj : j = x % 4) (w : World) : Calls Ybaf.prog 4 #[.int .u8 ((x : Int) % 4)] w fun e w' => e = .returned (.string (roleS j)) ∧ w' = w := by
  have h := role4 ((x : Int) % 4) (by omega) (by omega) w
  rw [show ((x : Int) % 4 % 6).toNat = j by omega] at h
  exact h
theorem res5j (x j : Nat) (hj : j = x % 4) (w : World) : Calls Ybaf.prog 5 #[.int .u8 ((x : Int) % 4)] w fun e w' => e = .returned (.string (resS j)) ∧ w' = w := by
  have h := res5 ((x : Int) % 4) (by omega) (by omega) w
  rw [show ((x : Int) % 4 % 5).toNat = j by omega] at h
  exact h

section
variable {w w' : World} {base bG : Nat} {B : Nat → Nat} {V : Nat → Nat → Value} {nm : Nat → Bool} {pm : Nat → Nat → List Nat} {lim : Nat}
theorem Gr.look (h : Gr w base bG B V nm pm lim) {j : Nat} (hj : j < 4) (hn : nm j = true) (w' : World) (hb : ∀ b, b < w.heap.size → w'.heap[b]? = w.heap[b]?) :
    (Instr.lookup 25 (.map (some bG)) (.string (roleS j)) false).run Ybaf.prog w' = .ok (.map (some (B j))) w' := by
  obtain ⟨s, h1, _⟩ := h.hG
  have h2 := (h1.block (hb _ h1.lt)).get Ybaf.underlying25 (zero29 w') (role_size j)
  rw [roleS_bytes, outer_at hj, if_pos hn] at h2; exact h2
theorem look25 {s : Nat} (h : RM w bG (outerF B nm) s) {j : Nat} (hj : j < 4) (hn : nm j = true) : (Instr.lookup 25 (.map (some bG)) (.string (roleS j)) false).run Ybaf.prog w = .ok (.map (some (B j))) w := by
  have h2 := h.get Ybaf.underlying25 (zero29 w) (role_size j)
  rw [roleS_bytes, outer_at hj, if_pos hn] at h2; exact h2
theorem Gr.look_none (h : Gr w base bG B V nm pm lim) {j : Nat} (hj : j < 4) (hn : nm j = false) (w' : World) (hb : ∀ b, b < w.heap.size → w'.heap[b]? = w.heap[b]?) :
    (Instr.lookup 25 (.map (some bG)) (.string (roleS j)) false).run Ybaf.prog w' = .ok (.map none) w' := by
  obtain ⟨s, h1, _⟩ := h.hG
  have h2 := (h1.block (hb _ h1.lt)).get Ybaf.underlying25 (zero29 w') (role_size j)
  rw [roleS_bytes, outer_at hj, if_neg (by rw [hn]; decide)] at h2; exact h2
theorem Gr.look2 (h : Gr w base bG B V nm pm lim) {j k : Nat} (hj : j < 4) (hk : k < 4) (hn : nm j = true) (w' : World) (hb : ∀ b, b < w.heap.size → w'.heap[b]? = w.heap[b]?) :
    (Instr.lookup 29 (.map (some (B j))) (.string (resS k)) false).run Ybaf.prog w' = .ok (rowAt V pm j k) w' := by
  obtain ⟨s, h1, _⟩ := h.hI j hj hn
  have h2 := (h1.block (hb _ h1.lt)).get Ybaf.underlying29 (zero30 w') (res_size k)
  rw [resS_bytes, inner_at hk] at h2
  rw [h2]
  unfold rowAt
  split <;> rfl
end

theorem cell_block {w w' : World} {a : Addr} (h : w'.heap[a.block]? = w.heap[a.block]?) : w'.cell? a = w.cell? a := by
  obtain ⟨b, o, sp⟩ := a
  simp only [World.cell?] at *
  rw [h]

theorem named_same {f g : Nat → Bool} {j : Nat} (h : ∀ i, g i = (f i || j == i)) (hj : f j = true) : f = g := by
  funext i; rw [h i]
  by_cases hji : j = i
  · subst hji; rw [hj]; rfl
  · have : (j == i) = false := by simpa using hji
    rw [this]; simp

/-- The role is named: 'grants[role] = map[string][]Permission{}'. -/
theorem name_step {w w1 : World} {N M : Nat} {B : Nat → Nat} {V : Nat → Nat → Value} {nm nm' : Nat → Bool} {pm : Nat → Nat → List Nat} {lim j : Nat} (h : Gr w1 N N B V nm pm lim) (hj : j < 4) (hn : nm j = false) (hbel : Below N w w1) (hs : w1.heap.size = M + 1) (hnm : ∀ i, nm' i = (nm i || j == i)) (hl : lim ≤ 5000) :
    ∃ w2 B2, (Instr.mapUpdate 25 (.map (some N)) (.string (roleS j)) (.map (some (M + 1)))).run Ybaf.prog (w1.alloc (Obj.map #[] 0)) = .ok () w2 ∧
      Gr w2 N N B2 V nm' pm (lim + 1) ∧ nm' j = true ∧ RM w2 (B2 j) (innerF (V j) (pm j)) 0 ∧ Below N w w2 ∧ (∀ b, b < w1.heap.size → b ≠ N → w2.heap[b]? = w1.heap[b]?) := by
  obtain ⟨sG, hG, hsG⟩ := h.hG
  have hlo := hG.lt
  have hG' := hG.block (Below.heap_alloc w1 (Obj.map #[] 0) _ hG.lt)
  obtain ⟨w2, s2, hrun, hR, hs2, ht⟩ := hG'.put Ybaf.underlying25 (by unfold maxLen; omega) (role_size j) (.map (some (M + 1)))
  rw [roleS_bytes] at hR
  have hR' : RM w2 N (updF (outerF B nm) (Pl.roleL j) (.map (some w1.heap.size))) s2 := by rw [hs]; exact hR
  have hGr := h.name hj hn (by omega) hR' (by omega) ht hnm
  rw [hs] at hGr
  have hpj : ∀ k, pm j k = [] := fun k => Classical.byContradiction fun hp => by have := h.hnm j k hp; rw [hn] at this; cases this
  refine ⟨w2, _, hrun, hGr, by rw [hnm]; simp, ?_, (hbel.alloc (by omega) _).grown ht.grown (by simp; omega) (fun k hk => by cases hk; exact Nat.le_refl _), fun b hb hne => (ht.grown.block b (by simp; omega) (fun e => hne (Option.some.inj e))).trans (Below.heap_alloc w1 _ b hb)⟩
  simp only [if_true]
  have e : innerF (V j) (pm j) = fun _ => none := by
    funext key; unfold innerF; cases Pl.resIdx key with
    | none => rfl
    | some k => simp [hpj]
  rw [e, ← hs]
  exact (RM.made w1).block (ht.grown.block _ (by simp) (fun e => by have := Option.some.inj e; omega))

theorem id_cells {w : World} {M : Nat} {v0 v1 v2 v3 v4 v5 v6 v7 v8 : Value} (h : w.heap[M]? = some (.cells #[v0, v1, v2, v3, v4, v5, v6, v7, v8] 48 (0, 0))) :
    w.cell? ⟨M, 0, none⟩ = some v0 ∧ w.cell? ⟨M, 1, none⟩ = some v1 ∧ w.cell? ⟨M, 2, none⟩ = some v2 ∧ w.cell? ⟨M, 3, none⟩ = some v3 ∧ w.cell? ⟨M, 4, none⟩ = some v4 ∧ w.cell? ⟨M, 5, none⟩ = some v5 ∧ w.cell? ⟨M, 6, none⟩ = some v6 ∧ w.cell? ⟨M, 7, none⟩ = some v7 ∧ w.cell? ⟨M, 8, none⟩ = some v8 := by
  simp [World.cell?, h]

theorem owns_any {w : World} {base : Nat} {e : TypeId} {size : Nat} {v : Value} {n : Nat} {xs : List Value} (h : w.ownsRow base e size v n xs) : ∃ p c, v = .slice p n c := by
  obtain ⟨_, h2⟩ := h
  rcases h2 with ⟨h2, h3⟩ | ⟨g, cap, cur, hv, _⟩
  · exact ⟨none, 0, by rw [h2, h3]⟩
  · exact ⟨_, _, hv⟩

/-- The slice 'roles': nil, or a slice of the call's own. -/
def RoleSl (w : World) (p : Option Addr) (m c : Nat) (xs : List ByteArray) : Prop :=
  xs.length = m ∧ ((p = none ∧ m = 0 ∧ c = 0) ∨ ∃ M, p = some ⟨M, 0, none⟩ ∧ M < w.heap.size ∧ ∀ i, i < m → w.cell? ⟨M, i, none⟩ = some (.string (xs.getD i ByteArray.empty)))

theorem RoleSl.lies {w : World} {p : Option Addr} {m c : Nat} {xs : List ByteArray} (h : RoleSl w p m c xs) : LiesS w p m xs := by
  obtain ⟨h1, h2⟩ := h
  refine ⟨h1, ?_⟩
  rcases h2 with ⟨_, h2, _⟩ | ⟨M, h3, _, h4⟩
  · exact .inl h2
  · exact .inr ⟨M, 0, h3, fun i hi => by rw [Nat.zero_add]; exact h4 i hi⟩
theorem RoleSl.below {w w' : World} {p : Option Addr} {m c : Nat} {xs : List ByteArray} (h : RoleSl w p m c xs) (hb : Below w.heap.size w w') : RoleSl w' p m c xs := by
  obtain ⟨h1, h2⟩ := h
  refine ⟨h1, ?_⟩
  rcases h2 with h2 | ⟨M, h3, h5, h4⟩
  · exact .inl h2
  · exact .inr ⟨M, h3, Nat.lt_of_lt_of_le h5 hb.size, fun i hi => (hb.cell (by exact h5)).trans (h4 i hi)⟩
theorem LiesS.below {w w' : World} {p : Option Addr} {m : Nat} {xs : List ByteArray} (h : LiesS w p m xs) (hb : Below w.heap.size w w') : LiesS w' p m xs := by
  obtain ⟨h1, h2⟩ := h
  refine ⟨h1, ?_⟩
  rcases h2 with h2 | ⟨b, o, h3, h4⟩
  · exact .inl h2
  · exact .inr ⟨b, o, h3, fun i hi => (hb.cell (World.block_lt_of_cell? w _ (h4 i hi))).trans (h4 i hi)⟩
theorem LiesS.owned {w : World} {base : Nat} {v : Value} {xs : List ByteArray} {p : Option Addr} {n c : Nat} (h : w.ownsRow base 9 1 v xs.length (xs.map Value.string)) (hv : v = .slice p n c) : LiesS w p n xs := by
  subst hv
  rcases Nat.eq_zero_or_pos xs.length with h0 | h0
  · obtain ⟨p', c', hv'⟩ := owns_any h
    cases hv'
    exact ⟨rfl, .inl h0⟩
  · obtain ⟨g, cap, hv', hc⟩ := owns_strs h h0
    cases hv'
    exact ⟨rfl, .inr ⟨g, 0, rfl, fun i hi => by rw [Nat.zero_add]; exact hc i hi⟩⟩

theorem clone7R {w : World} {p : Option Addr} {m c : Nat} {xs : List ByteArray} (h : RoleSl w p m c xs) (hm : m ≤ 5000) :
    Calls Ybaf.prog 7 #[.slice p m c] w fun e w' => ∃ p2 c2, e = .returned (.slice p2 m c2) ∧ LiesS w' p2 m xs ∧ Below w.heap.size w w' := by
  obtain ⟨h1, h2⟩ := h
  rcases h2 with ⟨rfl, rfl, rfl⟩ | ⟨M, rfl, _, h4⟩
  · exact (clone7_nil w).mono fun e w' ⟨he, hw⟩ => ⟨none, 0, he, ⟨h1, .inl rfl⟩, by rw [hw]; exact Below.refl _ _⟩
  · refine (clone7 M m c xs w hm h1 h4).mono fun e w' ⟨v', he, ho, hb⟩ => ?_
    obtain ⟨p2, c2, hv⟩ := owns_any ho
    subst h1
    exact ⟨p2, c2, by rw [he, hv], LiesS.owned ho hv, hb⟩

theorem perms8R (a0 a1 a2 a3 a5 a6 a7 a8 ctx : Value) {p : Option Addr} {m c : Nat} {xs : List ByteArray} (res : ByteArray) {w : World} {base X bR : Nat} {fR : List UInt8 → Option (Nat × Nat × Nat)} {vs vw : Value} {Rs : List ByteArray} {nW : Nat} {ev ob : Nat → Nat} {fo : Nat → List UInt8 → Option Nat}
    (h : Tab w base X bR fR vs vw Rs nW ev ob fo) (F : Fine fR Rs nW ev fo) (hr2 : res.size ≤ maxLen) (hm : m ≤ 5000) (hR : RoleSl w p m c xs) (hsz : ∀ i, i < m → (xs.getD i ByteArray.empty).size ≤ maxLen) :
    Calls Ybaf.prog 8 #[.pointer (some ⟨X, 0, none⟩), ctx, .agg #[a0, a1, a2, a3, .slice p m c, a5, a6, a7, a8], .string res] w fun e w' => e = .returned (.tuple #[.int .i64 (unionOf (said fR Rs ev fo) res.data.toList xs : Nat), .nilIface]) ∧ Below w.heap.size w w' := by
  obtain ⟨h1, h2⟩ := hR
  rcases h2 with ⟨rfl, rfl, rfl⟩ | ⟨M, rfl, h5, h4⟩
  · obtain rfl : xs = [] := List.eq_nil_of_length_eq_zero h1
    exact perms8_zero a0 a1 a2 a3 a5 a6 a7 a8 ctx none 0 res X w
  · exact perms8 a0 a1 a2 a3 a5 a6 a7 a8 ctx M 0 m c xs res h F hr2 hm h1 hsz (fun i hi => by rw [Nat.zero_add]; exact h4 i hi) h5

theorem Sp_nil (key r : List UInt8) : Pl.Sp (Pl.perms []) key r = 0 := by
  unfold Pl.Sp
  cases Pl.roleIdx key with
  | none => rfl
  | some j => cases Pl.resIdx r <;> simp [Pl.perms_nil, Pl.Mk_nil]

theorem LiesS.heap {w w' : World} {p : Option Addr} {m : Nat} {xs : List ByteArray} (h : LiesS w p m xs) (e : w'.heap = w.heap) : LiesS w' p m xs := by
  obtain ⟨h1, h2⟩ := h
  refine ⟨h1, ?_⟩
  rcases h2 with h2 | ⟨b, o, h3, h4⟩
  · exact .inl h2
  · exact .inr ⟨b, o, h3, fun i hi => (cell_block (by rw [e])).trans (h4 i hi)⟩
theorem Ls_lt (r s p : Nat → Nat) (n : Nat) : ∀ g ∈ Ls r s p n, g.2.2 < 64 := by
  intro g hg
  simp [Ls] at hg
  obtain ⟨i, _, rfl⟩ := hg
  exact Nat.mod_lt _ (by omega)

theorem own_heap {w w' : World} {b n : Nat} {D : DataW Value} (h : w.ownsMap Ybaf.prog 9 rawE b n D) (e : w'.heap = w.heap) : w'.ownsMap Ybaf.prog 9 rawE b n D := by
  obtain ⟨es, clock, hb, r⟩ := h
  exact ⟨es, clock, by rw [e]; exact hb, r⟩

/-- 'len(m)' behind '||' or '&&': the operation is wanted. -/
theorem wpList_len_wanted {w : World} {ops : Array Oper} {rest : List Oper} {o : Oper} {a : Act} {Q : Exit → Act → World → Prop} (hw : Region.wanted o (yielded ops a.tmps) = true) (m : Operand) (t : TypeId) (hop : o.op = Op.call { callee := Callee.builtin Builtin.len, args := #[m], argTypes := #[t] })
    (e : TypeId) (ht : Ybaf.prog.underlying t = some (.map 9 e)) (b n : Nat) (D : DataW Value) (hm : a.eval m = .map (some b)) (hown : w.ownsMap Ybaf.prog 9 rawE b n D)
    (hK : wpList Ybaf.prog ops Q rest (a.put o.dst (.int .i64 (Maps.size D))) w) : wpList Ybaf.prog ops Q (o :: rest) a w := by
  refine wpList_step fun K hK' => ?_
  rw [if_pos hw]
  unfold Oper.wp
  simp [execOp, hop, resolve, invoke, builtin, hm, hown.len ht o.type, Result.andThen]
  exact hK' _ _ hK

theorem made_block {w : World} {base g n c : Nat} {xs : List Value} (h : w.ownsRow base 9 1 (.slice (some ⟨g, 0, none⟩) n c) n xs) : ∃ cur, w.heap[g]? = some (.cells cur 9 (0, 0)) ∧ cur.size = c := by
  obtain ⟨_, h2⟩ := h
  rcases h2 with ⟨h2, _⟩ | ⟨g', cap, cur, hv, _, hh, _, _, hcs, _⟩
  · cases h2
  · cases hv; exact ⟨cur, hh, by omega⟩
theorem set_row {w : World} {M k : Nat} {cur : Array Value} {v : Value} (h : w.heap[M]? = some (.cells cur 9 (0, 0))) :
    ∃ cur', (w.setCell ⟨M, k, none⟩ v).heap[M]? = some (.cells cur' 9 (0, 0)) ∧ cur'.size = cur.size ∧ ∀ i, cur'[i]? = if i = k ∧ k < cur.size then some v else cur[i]? := by
  refine ⟨cur.setIfInBounds k v, by simp [World.setCell, Array.getElem?_modify, h], by simp, fun i => ?_⟩
  rw [Array.getElem?_setIfInBounds]
  by_cases hik : i = k
  · subst hik
    by_cases hl : i < cur.size
    · simp [hl]
    · simp [hl]
  · rw [if_neg (fun e => hik e.symm), if_neg (fun e => hik e.1)]

theorem Xs_at (q : Nat → Nat) {n i : Nat} (hi : i < n) : (Xs q n).getD i ByteArray.empty = roleS (q i % 6) := by simp [Xs, List.getD, hi]
theorem Xs_size (q : Nat → Nat) (n i : Nat) (hi : i < n) : ((Xs q n).getD i ByteArray.empty).size ≤ maxLen := by rw [Xs_at q hi]; exact role_size _

theorem role4n (x : Nat) (hx : x < 256) (w : World) : Calls Ybaf.prog 4 #[.int .u8 (x : Nat)] w fun e w' => e = .returned (.string (roleS (x % 6))) ∧ w' = w := by
  have h := role4 (x : Nat) (by omega) (by omega) w
  rw [show (((x : Nat) : Int) % 6).toNat = x % 6 by omega] at h
  exact h
theorem res5n (x : Nat) (hx : x < 256) (w : World) : Calls Ybaf.prog 5 #[.int .u8 (x : Nat)] w fun e w' => e = .returned (.string (resS (x % 5))) ∧ w' = w := by
  have h := res5 (x : Nat) (by omega) (by omega) w
  rw [show (((x : Nat) : Int) % 5).toNat = x % 5 by omega] at h
  exact h

end Go.Proofs.YbulkdzqsFmt

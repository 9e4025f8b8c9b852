/-
  Seat b6310aF: the contract of (*RoleTable).Permissions (8).
-/
import Derived.Test.YbulkdzqsFmtTab
namespace Go.Proofs.YbulkdzqsFmt
open Go.RowKit Go.Maps

theorem owns_block {w w' : World} {base : Nat} {e : TypeId} {size : Nat} {v : Value} {n : Nat} {xs : List Value} (h : w.ownsRow base e size v n xs) (hb : ∀ g, v.ownBlock = some g → w'.heap[g]? = w.heap[g]?) : w'.ownsRow base e size v n xs := by
  obtain ⟨h1, h2⟩ := h
  refine ⟨h1, ?_⟩
  rcases h2 with h2 | ⟨g, cap, cur, hv, hg, hh, r⟩
  · exact .inl h2
  · exact .inr ⟨g, cap, cur, hv, hg, (hb g (by rw [hv]; rfl)).trans hh, r⟩

theorem Tab.below {w w' : World} {base X bR : Nat} {fR : List UInt8 → Option (Nat × Nat × Nat)} {vs vw : Value} {Rs : List ByteArray} {nW : Nat} {ev ob : Nat → Nat} {fo : Nat → List UInt8 → Option Nat}
    (h : Tab w base X bR fR vs vw Rs nW ev ob fo) {B : Nat} (hb : Below B w w') (hB : w.heap.size ≤ B) : Tab w' base X bR fR vs vw Rs nW ev ob fo where
  hX := (hb.block X (Nat.lt_of_lt_of_le (Array.getElem?_eq_some_iff.1 h.hX).1 hB)).trans h.hX
  hR := by obtain ⟨s, hR⟩ := h.hR; exact ⟨s, hR.block (hb.block _ (Nat.lt_of_lt_of_le hR.lt hB))⟩
  hs := owns_block h.hs (fun g hg => hb.block g (Nat.lt_of_lt_of_le (h.hs.lt g hg).2 hB))
  hw := owns_block h.hw (fun g hg => hb.block g (Nat.lt_of_lt_of_le (h.hw.lt g hg).2 hB))
  ho := fun i hi => by obtain ⟨s, ho⟩ := h.ho i hi; exact ⟨s, ho.block (hb.block _ (Nat.lt_of_lt_of_le ho.lt hB))⟩
  dR := h.dR

theorem said_lt {fR : List UInt8 → Option (Nat × Nat × Nat)} {Rs : List ByteArray} {nW : Nat} {ev : Nat → Nat} {fo : Nat → List UInt8 → Option Nat} (F : Fine fR Rs nW ev fo) (key r : List UInt8) : said fR Rs ev fo key r < 2 ^ 63 := by
  unfold said
  cases hf : fR key with
  | none => exact (by decide : (0 : Nat) < 2 ^ 63)
  | some e =>
    obtain ⟨m, p, wd⟩ := e
    have ha := F.at_ key m p wd hf
    simp only
    split
    · split
      · exact ha.2.2
      · decide
    · refine Nat.or_lt_two_pow (F.evs _ (by omega)) ?_
      cases hh : fo (wd - 1) r with
      | none => decide
      | some q => exact F.fos _ (by omega) _ q hh

/-- grants. -/
theorem grants12 (role res : ByteArray) {w : World} {base X bR : Nat} {fR : List UInt8 → Option (Nat × Nat × Nat)} {vs vw : Value} {Rs : List ByteArray} {nW : Nat} {ev ob : Nat → Nat} {fo : Nat → List UInt8 → Option Nat}
    (h : Tab w base X bR fR vs vw Rs nW ev ob fo) (F : Fine fR Rs nW ev fo) (hr : role.size ≤ maxLen) (hr2 : res.size ≤ maxLen) :
    Calls Ybaf.prog 12 #[.pointer (some ⟨X, 0, none⟩), .string role, .string res] w fun e w' => e = .returned (.int .i64 (said fR Rs ev fo role.data.toList res.data.toList : Nat)) ∧ Below w.heap.size w w' := by
  cases hf : fR role.data.toList with
  | none =>
    refine grants_narrow role res h F hr 0 0 _ F.pos (by rw [hf]; rfl) ?_
    show said fR Rs ev fo role.data.toList res.data.toList = _
    unfold said; rw [hf]; simp
  | some e =>
    obtain ⟨m, p, wd⟩ := e
    have ha := F.at_ _ m p wd hf
    by_cases hw : wd = 0
    · subst hw
      refine grants_narrow role res h F hr m p _ ha.1 (by rw [hf]; rfl) ?_
      show said fR Rs ev fo role.data.toList res.data.toList = _
      unfold said; rw [hf]; simp
    · obtain ⟨i, rfl⟩ : ∃ i, wd = i + 1 := ⟨wd - 1, by omega⟩
      have := grants_wide role res h F hr hr2 m p i (by omega) hf
      have e : said fR Rs ev fo role.data.toList res.data.toList = ev i ||| (fo i res.data.toList).getD 0 := by unfold said; rw [hf]; simp
      rw [e]; exact this

/-- The union over the roles. -/
def unionOf (S : List UInt8 → List UInt8 → Nat) (r : List UInt8) (l : List ByteArray) : Nat := l.foldl (fun m x => m ||| S x.data.toList r) 0
theorem union_snoc (S : List UInt8 → List UInt8 → Nat) (r : List UInt8) (l : List ByteArray) (x : ByteArray) : unionOf S r (l ++ [x]) = unionOf S r l ||| S x.data.toList r := by simp [unionOf, List.foldl_append]
theorem union_take (S : List UInt8 → List UInt8 → Nat) (r : List UInt8) (l : List ByteArray) (k : Nat) (h : k < l.length) : unionOf S r (l.take (k + 1)) = unionOf S r (l.take k) ||| S (l.getD k ByteArray.empty).data.toList r := by
  rw [List.take_succ_eq_append_getElem h, union_snoc]; simp [List.getD, h]
theorem union_lt {S : List UInt8 → List UInt8 → Nat} (hS : ∀ k r, S k r < 2 ^ 63) (r : List UInt8) (l : List ByteArray) : unionOf S r l < 2 ^ 63 := by
  have : ∀ (l : List ByteArray) m, m < 2 ^ 63 → l.foldl (fun m x => m ||| S x.data.toList r) m < 2 ^ 63 := by
    intro l
    induction l with
    | nil => intro m hm; exact hm
    | cons a t ih => intro m hm; exact ih _ (Nat.or_lt_two_pow hm (hS _ _))
  exact this l 0 (by decide)

set_option maxRecDepth 100000 in
set_option maxHeartbeats 1600000 in
/-- Permissions. -/
theorem perms8 (a0 a1 a2 a3 a5 a6 a7 a8 ctx : Value) (b o n cap : Nat) (xs : List ByteArray) (res : ByteArray) {w : World} {base X bR : Nat} {fR : List UInt8 → Option (Nat × Nat × Nat)} {vs vw : Value} {Rs : List ByteArray} {nW : Nat} {ev ob : Nat → Nat} {fo : Nat → List UInt8 → Option Nat}
    (h : Tab w base X bR fR vs vw Rs nW ev ob fo) (F : Fine fR Rs nW ev fo) (hr2 : res.size ≤ maxLen) (hn : n ≤ 5000) (hx : xs.length = n) (hsz : ∀ i, i < n → (xs.getD i ByteArray.empty).size ≤ maxLen) (hc : ∀ i, i < n → w.cell? ⟨b, o + i, none⟩ = some (.string (xs.getD i ByteArray.empty)))
    (hb : b < w.heap.size) :
    Calls Ybaf.prog 8 #[.pointer (some ⟨X, 0, none⟩), ctx, .agg #[a0, a1, a2, a3, .slice (some ⟨b, o, none⟩) n cap, a5, a6, a7, a8], .string res] w fun e w' => e = .returned (.tuple #[.int .i64 (unionOf (said fR Rs ev fo) res.data.toList xs : Nat), .nilIface]) ∧ Below w.heap.size w w' := by
  have hS := said_lt F
  go_enter Ybaf.func8, Ybaf.ntmps8
  go_wp2
  go_loopw [10, 16] (fun m i wr => ∃ k : Nat, k ≤ n ∧ i = .int .i64 k ∧ m = .int .i64 (unionOf (said fR Rs ev fo) res.data.toList (xs.take k) : Nat) ∧ Below w.heap.size w wr) (fun _ i _ => n - (intOf i).toNat)
  case atStart => exact ⟨0, Nat.zero_le _, rfl, rfl, (Below.refl _ w).alloc (Nat.le_refl _) _⟩
  case round =>
    obtain ⟨k, hk, rfl, rfl, hbel⟩ := hrel
    by_cases hkn : k < n
    · have hck : wr.cell? ⟨b, o + k, none⟩ = some (.string (xs.getD k ByteArray.empty)) := (hbel.cell (by exact hb)).trans (hc k hkn)
      have hu := union_lt hS res.data.toList (xs.take k)
      have HU : Hid (unionOf (said fR Rs ev fo) res.data.toList (xs.take (k + 1)) = unionOf (said fR Rs ev fo) res.data.toList (xs.take k) ||| said fR Rs ev fo (xs.getD k ByteArray.empty).data.toList res.data.toList) := union_take _ _ xs k (by omega)
      have hT := h.below hbel (Nat.le_refl _)
      have hkz := hsz k hkn
      have hSk := hS (xs.getD k ByteArray.empty).data.toList res.data.toList
      have hkn' : (k : Int) < (n : Int) := by omega
      clear hc hsz
      generalize xs.getD k ByteArray.empty = role at *
      go_wp2_with (go_at_call 12; refine (grants12 role res hT F hkz hr2).mono ?_; rintro e w1 ⟨rfl, hb1⟩)
      rw [i64_or_nat _ _ hu hSk]
      go_roundw
      case rel => exact ⟨k + 1, by omega, by go_num, by rw [HU.out], hbel.trans (hb1.mono hbel.size)⟩
      case measure => simp [intOf]; omega
    · have hk' : xs.take k = xs := List.take_of_length_le (by omega)
      rw [hk']
      clear hk'
      go_wp2
      go_ret2
      exact ⟨rfl, hbel⟩

set_option maxRecDepth 100000 in
theorem perms8_zero (a0 a1 a2 a3 a5 a6 a7 a8 ctx : Value) (p : Option Addr) (cap : Nat) (res : ByteArray) (X : Nat) (w : World) :
    Calls Ybaf.prog 8 #[.pointer (some ⟨X, 0, none⟩), ctx, .agg #[a0, a1, a2, a3, .slice p 0 cap, a5, a6, a7, a8], .string res] w fun e w' => e = .returned (.tuple #[.int .i64 0, .nilIface]) ∧ Below w.heap.size w w' := by
  go_enter Ybaf.func8, Ybaf.ntmps8
  go_wp2
  refine wp_loop_rounds 1 ?_
  rw [rounds_succ]
  go_wp2
  go_ret2
  exact ⟨rfl, (Below.refl _ w).alloc (Nat.le_refl _) _⟩

end Go.Proofs.YbulkdzqsFmt

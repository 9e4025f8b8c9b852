/-
  Seat b6310aF: maps of the call's own, keyed by strings, told by a plain function from bytes to the very values that lie there.
-/
import Derived.Test.YbulkdzqsFmtRows
import Derived.Test.YbulkdzqsFmtPlain
import Derived.Maps.RangeWalk
import Derived.Deep.Draws
import Derived.WalkKit
import Derived.WalkSpells
namespace Go.Proofs.YbulkdzqsFmt
open Go.RowKit Go.Maps

theorem law9 : Keyed Ybaf.prog 9 := string_keyed Ybaf.underlying9

/-- The very value. -/
def rawE (v : Value) : Option (DataW Value × List MemPlace) := some (.held v, [])
abbrev sk (k : List UInt8) : Lit := .string k

/-- What stands where: the datum D holds just what f says. -/
def Tells (D : DataW Value) (f : List UInt8 → Option Value) : Prop := ∀ k z, D.atKey (sk k) z = match f k with | some v => .held v | none => z

theorem key_mk {s : ByteArray} (hs : s.size ≤ maxLen) : keyOf Ybaf.prog 9 (.string s) = some (.string s.data.toList) := by
  simp [keyOf, Ybaf.underlying9, mapKey, hs]
theorem key_inv {key : Value} {kl : Lit} (h : keyOf Ybaf.prog 9 key = some kl) : ∃ s : ByteArray, key = .string s ∧ kl = .string s.data.toList ∧ s.size ≤ maxLen := by
  cases key <;> simp [keyOf, Ybaf.underlying9, mapKey] at h
  exact ⟨_, rfl, h.2.symm, h.1⟩

theorem skNe {a b : List UInt8} (h : a ≠ b) : sk a ≠ sk b := fun e => by injection e with e; exact h e
theorem skKey (k : List UInt8) : WideAt.IsKeyLit (sk k) := by simp [WideAt.IsKeyLit]

def updF (f : List UInt8 → Option Value) (k : List UInt8) (v : Value) : List UInt8 → Option Value := fun x => if x = k then some v else f x
theorem updF_same (f : List UInt8 → Option Value) (k : List UInt8) (v : Value) : updF f k v k = some v := by simp [updF]
theorem updF_other (f : List UInt8 → Option Value) {k x : List UInt8} (v : Value) (h : x ≠ k) : updF f k v x = f x := by simp [updF, h]

theorem Tells.has {D : DataW Value} {f : List UInt8 → Option Value} (h : Tells D f) (k : List UInt8) : Maps.has D (sk k) = (f k).isSome := by
  cases hf : f k with
  | none => exact has_false_of_atKey (fun z => by rw [h k z, hf])
  | some v => exact has_true_of_atKey (y := .held v) (fun z => by rw [h k z, hf])

/-- BLOCK b IS A MAP OF s KEYS IN WHICH f SAYS WHAT STANDS WHERE. -/
def RM (w : World) (b : Nat) (f : List UInt8 → Option Value) (s : Nat) : Prop :=
  ∃ D : DataW Value, w.ownsMap Ybaf.prog 9 rawE b s D ∧ Tells D f ∧ Maps.size D = s

theorem tight {w : World} {b n : Nat} {D : DataW Value} (h : w.ownsMap Ybaf.prog 9 rawE b n D) : w.ownsMap Ybaf.prog 9 rawE b (Maps.size D) D := by
  obtain ⟨es, clock, hb, F, hs, rfl⟩ := h
  exact ⟨es, clock, hb, F, by simp [Maps.size, length_sorted], rfl⟩

theorem RM.made (w : World) : RM (w.alloc (.map #[] 0)) w.heap.size (fun _ => none) 0 :=
  ⟨.map [], World.ownsMap_made w _ _ _, fun _ _ => rfl, rfl⟩
theorem RM.lt {w : World} {b : Nat} {f : List UInt8 → Option Value} {s : Nat} (h : RM w b f s) : b < w.heap.size := by
  obtain ⟨D, h, _⟩ := h; exact h.lt
theorem RM.block {w w' : World} {b : Nat} {f : List UInt8 → Option Value} {s : Nat} (h : RM w b f s) (hb : w'.heap[b]? = w.heap[b]?) : RM w' b f s := by
  obtain ⟨D, ⟨es, clock, hh, r'⟩, r⟩ := h
  exact ⟨D, ⟨es, clock, hb.trans hh, r'⟩, r⟩
theorem RM.isMap {w : World} {b : Nat} {f : List UInt8 → Option Value} {s : Nat} (h : RM w b f s) : ∃ es c, w.heap[b]? = some (.map es c) := by
  obtain ⟨D, ⟨es, clock, hh, _⟩, _⟩ := h; exact ⟨es, clock, hh⟩

/-- 'm[k] = v'. -/
theorem RM.put {w : World} {b : Nat} {f : List UInt8 → Option Value} {s : Nat} {t e : TypeId} (h : RM w b f s) (ht : Ybaf.prog.underlying t = some (.map 9 e)) (hn : s < maxLen) {k : ByteArray} (hk : k.size ≤ maxLen) (v : Value) :
    ∃ w' s', (Instr.mapUpdate t (.map (some b)) (.string k) v).run Ybaf.prog w = .ok () w' ∧ RM w' b (updF f k.data.toList v) s' ∧ s' ≤ s + 1 ∧ w.mapTurned w' b := by
  obtain ⟨D, h, h2, h3⟩ := h
  have htd := h.tidy law9
  obtain ⟨w', hrun, ho, hm⟩ := h.store law9 ht hn (key_mk hk) (show rawE v = some (.held v, []) from rfl)
  refine ⟨w', _, hrun, ⟨_, tight ho, fun x z => ?_, rfl⟩, ?_, hm⟩
  · by_cases e : x = k.data.toList
    · subst e; rw [atKey_put_same h.isMap (skKey _), updF_same]
    · rw [atKey_put_other (skNe e), h2, updF_other _ _ e]
  · rw [size_put htd]; split <;> omega

/-- 'm[k]'. -/
theorem RM.get {w : World} {b : Nat} {f : List UInt8 → Option Value} {s : Nat} {t e : TypeId} (h : RM w b f s) (ht : Ybaf.prog.underlying t = some (.map 9 e)) {z : Value} (hz : (zeroValue e).run Ybaf.prog w = .ok z w) {k : ByteArray} (hk : k.size ≤ maxLen) :
    (Instr.lookup t (.map (some b)) (.string k) false).run Ybaf.prog w = .ok ((f k.data.toList).getD z) w := by
  obtain ⟨D, h, h2, h3⟩ := h
  obtain ⟨v, ps, hrun, hv⟩ := h.lookup law9 ht hz (show rawE z = some (.held z, []) from rfl) (key_mk hk)
  have e1 : DataW.held v = D.atKey (sk k.data.toList) (.held z) := congrArg Prod.fst (Option.some.inj hv)
  rw [h2] at e1
  rw [hrun]
  cases hf : f k.data.toList with
  | none => rw [hf] at e1; injection e1 with e1; rw [e1]; rfl
  | some u => rw [hf] at e1; injection e1 with e1; rw [e1]; rfl

/-- 'v, ok := m[k]'. -/
theorem RM.get_ok {w : World} {b : Nat} {f : List UInt8 → Option Value} {s : Nat} {t e : TypeId} (h : RM w b f s) (ht : Ybaf.prog.underlying t = some (.map 9 e)) {z : Value} (hz : (zeroValue e).run Ybaf.prog w = .ok z w) {k : ByteArray} (hk : k.size ≤ maxLen) :
    (Instr.lookup t (.map (some b)) (.string k) true).run Ybaf.prog w = .ok (.tuple #[(f k.data.toList).getD z, .bool (f k.data.toList).isSome]) w := by
  obtain ⟨D, h, h2, h3⟩ := h
  obtain ⟨v, ps, hrun, hv⟩ := h.look_ok law9 ht hz (show rawE z = some (.held z, []) from rfl) (key_mk hk)
  have e1 : DataW.held v = D.atKey (sk k.data.toList) (.held z) := congrArg Prod.fst (Option.some.inj hv)
  rw [h2] at e1
  rw [hrun, h2.has]
  cases hf : f k.data.toList with
  | none => rw [hf] at e1; injection e1 with e1; rw [e1]; rfl
  | some u => rw [hf] at e1; injection e1 with e1; rw [e1]; rfl

/-- A loop over such a map under way. -/
def RG (w : World) (b r : Nat) (f : List UInt8 → Option Value) (s : Nat) (left : List UInt8 → Bool) (cnt : Nat) : Prop :=
  ∃ (D : DataW Value) (lf : Lit → Bool), w.ranges Ybaf.prog 9 rawE b r s D lf cnt ∧ Tells D f ∧ Maps.size D = s ∧ (∀ k, lf (sk k) = left k)

theorem RG.rm {w : World} {b r : Nat} {f : List UInt8 → Option Value} {s : Nat} {left : List UInt8 → Bool} {cnt : Nat} (h : RG w b r f s left cnt) : RM w b f s := by
  obtain ⟨D, lf, h1, h2, h3, _⟩ := h; exact ⟨D, h1.owns, h2, h3⟩
theorem RG.left_eq {w : World} {b r : Nat} {f : List UInt8 → Option Value} {s : Nat} {left : List UInt8 → Bool} {cnt : Nat} (h : RG w b r f s left cnt) : w.rangeLeft b r = cnt := by
  obtain ⟨D, lf, h1, _⟩ := h; exact h1.left_eq
theorem RG.lt {w : World} {b r : Nat} {f : List UInt8 → Option Value} {s : Nat} {left : List UInt8 → Bool} {cnt : Nat} (h : RG w b r f s left cnt) : r < w.heap.size := by
  obtain ⟨D, lf, h1, _⟩ := h; exact h1.lt
theorem RG.ne {w : World} {b r : Nat} {f : List UInt8 → Option Value} {s : Nat} {left : List UInt8 → Bool} {cnt : Nat} (h : RG w b r f s left cnt) : r ≠ b := by
  obtain ⟨D, lf, h1, _⟩ := h; exact h1.ne
theorem RG.iter {w : World} {b r : Nat} {f : List UInt8 → Option Value} {s : Nat} {left : List UInt8 → Bool} {cnt : Nat} (h : RG w b r f s left cnt) : ∃ a b c d, w.heap[r]? = some (.mapIter a b c d) := by
  obtain ⟨D, lf, ⟨es, clock, since, seen, c0, _, _, _, _, hr, _⟩, _⟩ := h; exact ⟨_, _, _, _, hr⟩
theorem RG.block {w w' : World} {b r : Nat} {f : List UInt8 → Option Value} {s : Nat} {left : List UInt8 → Bool} {cnt : Nat} (h : RG w b r f s left cnt) (hb : w'.heap[b]? = w.heap[b]?) (hr : w'.heap[r]? = w.heap[r]?) : RG w' b r f s left cnt := by
  obtain ⟨D, lf, ⟨es, clock, since, seen, c0, h1, h2, h3, h4, h5, r'⟩, r⟩ := h
  exact ⟨D, lf, ⟨es, clock, since, seen, c0, hb.trans h1, h2, h3, h4, hr.trans h5, r'⟩, r⟩

/-- A key that is still to come is a key of the map; something is then still to come. -/
theorem RG.key {w : World} {b r : Nat} {f : List UInt8 → Option Value} {s : Nat} {left : List UInt8 → Bool} {cnt : Nat} (h : RG w b r f s left cnt) {k : List UInt8} (hk : left k = true) : (f k).isSome = true ∧ 0 < cnt := by
  obtain ⟨D, lf, h1, h2, h3, h4⟩ := h
  have hk' : lf (sk k) = true := (h4 k).trans hk
  refine ⟨?_, ?_⟩
  · obtain ⟨es, clock, since, seen, c0, _, F, _, hD, _, _, _, _, hl2, _⟩ := h1
    obtain ⟨x, hx, e⟩ := hl2 _ hk'
    rw [← h2.has, hD]
    exact List.any_eq_true.2 ⟨_, mem_sorted.2 (List.mem_map.2 ⟨x, hx, rfl⟩), by rw [e]; exact WideAt.sameKey_self (skKey k)⟩
  · rcases h1.next law9 0 with ⟨_, h0, _⟩ | ⟨_, _, _, _, _, cnt', _, _, _, _, _, _, hlt, _⟩
    · rw [h0] at hk'; cases hk'
    · omega

def strike (left : List UInt8 → Bool) (k : List UInt8) : List UInt8 → Bool := fun x => left x && !(x == k)
theorem strike_sameKey (a b : List UInt8) : (sk a).sameKey (sk b) = (a == b) := by
  by_cases e : a = b
  · subst e; rw [WideAt.sameKey_self (skKey _)]; simp
  · rw [sameKey_ne (skNe e)]; simp [e]

section
variable (w : World) {ops : Array Oper} {rest : List Oper} {o : Oper} {a : Act} {Q : Exit → Act → World → Prop}

/-- 'range m'. -/
theorem wp_range (hg : o.guard = none) (m : Operand) (t e : TypeId) (hop : o.op = Op.range t m) (ht : Ybaf.prog.underlying t = some (.map 9 e)) (b s : Nat) (f : List UInt8 → Option Value)
    (hm : a.eval m = .map (some b)) (h : RM w b f s)
    (hK : ∀ w', RG w' b w.heap.size f s (fun k => (f k).isSome) s → w.grownBy w' none → w'.heap.size = w.heap.size + 1 → wpList Ybaf.prog ops Q rest (a.put o.dst (.pointer (some ⟨w.heap.size, 0, none⟩))) w') :
    wpList Ybaf.prog ops Q (o :: rest) a w := by
  obtain ⟨D, hown, h2, h3⟩ := h
  refine wpList_range_own w hg m t hop 9 e law9 ht rawE b s D hm hown fun w' hr hgr hs => hK w' ⟨D, _, ?_, h2, h3, fun k => h2.has k⟩ hgr hs
  rw [h3] at hr; exact hr

/-- The loop's step. -/
theorem wp_next (hg : o.guard = none) (it : Operand) (hop : o.op = Op.next it false) (b r s : Nat) (f : List UInt8 → Option Value) (left : List UInt8 → Bool) (cnt : Nat)
    (hit : a.eval it = .pointer (some ⟨r, 0, none⟩)) (h : RG w b r f s left cnt)
    (hDone : (∀ k, left k = false) → wpList Ybaf.prog ops Q rest (a.put o.dst (.tuple #[.bool false])) w)
    (hMore : ∀ (k : ByteArray) (v : Value) (w' : World) (cnt' : Nat), k.size ≤ maxLen → left k.data.toList = true → f k.data.toList = some v → RG w' b r f s (strike left k.data.toList) cnt' → cnt' < cnt →
      w.grownBy w' (some r) → w'.heap.size = w.heap.size → (Instr.entry (.pointer (some ⟨r, 0, none⟩))).run Ybaf.prog w' = .ok (.tuple #[.string k, v]) w' → wpList Ybaf.prog ops Q rest (a.put o.dst (.tuple #[.bool true, .string k, v])) w') :
    wpList Ybaf.prog ops Q (o :: rest) a w := by
  obtain ⟨D, lf, h1, h2, h3, h4⟩ := h
  refine wpList_next_ranges w hg it hop 9 law9 rawE (Value.string) (fun v : Value => v) (fun key kl hk => ?_) (fun v y _ => ⟨v, rfl⟩) b r s D lf cnt hit h1 (fun _ hl => hDone (fun k => (h4 k).symm.trans (hl _))) ?_
  · obtain ⟨x, rfl, _⟩ := key_inv hk; exact ⟨x, rfl⟩
  · intro k v kl y w' cnt' hkey hl hv hat hr hlt hgr hs hen
    obtain ⟨k', e1, rfl, hsz⟩ := key_inv hkey
    cases e1
    have hy : y = (.held v, []) := (Option.some.inj hv).symm
    have hf : f k.data.toList = some v := by
      have h5 := hat .nil
      rw [show Lit.string k.data.toList = sk k.data.toList from rfl, h2, hy] at h5
      cases hf : f k.data.toList with
      | none => rw [hf] at h5; cases h5
      | some u => rw [hf] at h5; exact congrArg some (DataW.held.inj h5)
    refine hMore k v w' cnt' hsz ((h4 _).symm.trans hl) hf ⟨D, _, hr, h2, h3, fun x => ?_⟩ hlt hgr hs hen
    show (lf (sk x) && !(sk x).sameKey (sk k.data.toList)) = _
    rw [h4, strike_sameKey]; rfl
end

theorem RM.len {w : World} {b : Nat} {f : List UInt8 → Option Value} {s : Nat} (h : RM w b f s) : ∃ D : DataW Value, w.ownsMap Ybaf.prog 9 rawE b s D ∧ Maps.size D = s := by
  obtain ⟨D, h, _, h3⟩ := h; exact ⟨D, h, h3⟩

/-- 'make(map[K]V, n)'. -/
theorem run_makeMap_hint {t k e : TypeId} (ht : Ybaf.prog.underlying t = some (.map k e)) (n : Int) (w : World) : (Instr.makeMap t (some (.int .i64 n))).run Ybaf.prog w = .ok (.map (some w.heap.size)) (w.alloc (.map #[] 0)) := by
  simp [Instr.makeMap, run_underlying ht, asInt]
  rfl

end Go.Proofs.YbulkdzqsFmt

/-
  Seat b6308a: a map[uint64]bool of the call's own, told by a plain function from numbers and by its number of keys.
-/
import Derived.Test.YbulkdzpqRows
import Derived.Test.YbulkdzpqPlain
import Derived.Maps.OwnSet
import Derived.WalkKit
import Derived.WalkSpells
import Derived.Deep.Draws
namespace Go.Proofs.Ybulkdzpq
open Go.RowKit Go.Maps

theorem law22 : Keyed Yba.prog 22 := int_keyed Yba.underlying22
theorem zero4 (w : World) : (zeroValue 4).run Yba.prog w = .ok (.bool false) w := by kernel_rfl

theorem bool_inv {H : Type} {v : Value} {z : DataW H × List MemPlace} (h : plainElem Yba.prog 4 v = some z) : ∃ x, v = .bool x ∧ z = (.lit (.bool x), []) := by
  unfold plainElem at h
  rw [Yba.underlying4] at h
  cases v <;> simp at h
  exact ⟨_, rfl, h.symm⟩

theorem keyNe {a b : Int} (h : a ≠ b) : Lit.int .u64 a ≠ Lit.int .u64 b := fun e => by injection e with _ e; exact h e

/-- BLOCK b IS A MAP OF s KEYS, AT MOST n, IN WHICH f SAYS WHAT STANDS WHERE. -/
def MB (w : World) (b n : Nat) (f : Int → Option Bool) (s : Nat) : Prop :=
  ∃ D : DataW Unit, w.ownsMap Yba.prog 22 (plainElem Yba.prog 4) b n D ∧ (∀ k, has D (.int .u64 k) = (f k).isSome) ∧ (∀ k, D.atKey (.int .u64 k) (.lit (.bool false)) = .lit (.bool ((f k).getD false))) ∧ size D = s

theorem MB.made (w : World) : MB (w.alloc (.map #[] 0)) w.heap.size 0 (fun _ => none) 0 :=
  ⟨.map [], World.ownsMap_made w _ _ _, fun _ => rfl, fun _ => rfl, rfl⟩

theorem MB.lt {w : World} {b n : Nat} {f : Int → Option Bool} {s : Nat} (h : MB w b n f s) : b < w.heap.size := by
  obtain ⟨D, h, _⟩ := h; exact h.lt
theorem MB.alloc {w : World} {b n : Nat} {f : Int → Option Bool} {s : Nat} (h : MB w b n f s) (o : Obj) : MB (w.alloc o) b n f s := by
  obtain ⟨D, h, r⟩ := h; exact ⟨D, h.alloc o, r⟩
theorem MB.drew {w : World} {b n : Nat} {f : Int → Option Bool} {s : Nat} (h : MB w b n f s) : MB w.drew b n f s := by
  obtain ⟨D, h, r⟩ := h; exact ⟨D, h.drew, r⟩
theorem MB.drewN {w : World} {b n : Nat} {f : Int → Option Bool} {s : Nat} (h : MB w b n f s) (m : Nat) : MB (w.drewN m) b n f s := by
  obtain ⟨D, h, r⟩ := h; exact ⟨D, h, r⟩
theorem MB.setCell {w : World} {b n : Nat} {f : Int → Option Bool} {s : Nat} (h : MB w b n f s) {a : Addr} (ha : b ≠ a.block) (u : Value) : MB (w.setCell a u) b n f s := by
  obtain ⟨D, h, r⟩ := h; exact ⟨D, h.setCell ha u, r⟩
theorem MB.block {w w' : World} {b n : Nat} {f : Int → Option Bool} {s : Nat} (h : MB w b n f s) (hb : w'.heap[b]? = w.heap[b]?) : MB w' b n f s := by
  obtain ⟨D, ⟨es, clock, hh, r'⟩, r⟩ := h
  exact ⟨D, ⟨es, clock, hb.trans hh, r'⟩, r⟩

/-- 'm[k] = v'. -/
theorem MB.put {w : World} {b n : Nat} {f : Int → Option Bool} {s : Nat} (h : MB w b n f s) (hn : n < maxLen) {k : Int} (hk : (Lit.int .u64 k).wf = true) (v : Bool) :
    ∃ w', (Instr.mapUpdate 42 (.map (some b)) (.int .u64 k) (.bool v)).run Yba.prog w = .ok () w' ∧ MB w' b (n + 1) (Pl.upd f k v) (Pl.bump f k s) ∧ w.mapTurned w' b := by
  obtain ⟨D, h, h1, h2, h3⟩ := h
  have ht := h.tidy law22
  obtain ⟨w', hrun, ho, hm⟩ := h.store law22 Yba.underlying42 hn (keyOf_int_mk Yba.underlying22 hk) (plainElem_bool Yba.underlying4 v)
  have hkl : WideAt.IsKeyLit (Lit.int .u64 k) := by simp [WideAt.IsKeyLit]
  refine ⟨w', hrun, ⟨_, ho, fun x => ?_, fun x => ?_, ?_⟩, hm⟩
  · by_cases e : x = k
    · subst e; rw [has_put_same h.isMap hkl, Pl.upd_same]; rfl
    · rw [has_put_other (keyNe e), h1, Pl.upd_other _ _ e]
  · by_cases e : x = k
    · subst e; rw [atKey_put_same h.isMap hkl, Pl.upd_same]; rfl
    · rw [atKey_put_other (keyNe e), h2, Pl.upd_other _ _ e]
  · rw [size_put ht, h1, h3]; rfl

/-- 'm[k]'. -/
theorem MB.get {w : World} {b n : Nat} {f : Int → Option Bool} {s : Nat} (h : MB w b n f s) {k : Int} (hk : (Lit.int .u64 k).wf = true) :
    (Instr.lookup 42 (.map (some b)) (.int .u64 k) false).run Yba.prog w = .ok (.bool ((f k).getD false)) w := by
  obtain ⟨D, h, h1, h2, h3⟩ := h
  obtain ⟨v, ps, hrun, hv⟩ := h.lookup law22 Yba.underlying42 (zero4 w) (plainElem_bool Yba.underlying4 false) (keyOf_int_mk Yba.underlying22 hk)
  obtain ⟨x, rfl, hx⟩ := bool_inv hv
  rw [h2] at hx
  have e : (f k).getD false = x := by simpa using congrArg Prod.fst hx
  rw [e]; exact hrun

/-- 'v, ok := m[k]'. -/
theorem MB.get_ok {w : World} {b n : Nat} {f : Int → Option Bool} {s : Nat} (h : MB w b n f s) {k : Int} (hk : (Lit.int .u64 k).wf = true) :
    (Instr.lookup 42 (.map (some b)) (.int .u64 k) true).run Yba.prog w = .ok (.tuple #[.bool ((f k).getD false), .bool (f k).isSome]) w := by
  obtain ⟨D, h, h1, h2, h3⟩ := h
  obtain ⟨v, ps, hrun, hv⟩ := h.look_ok law22 Yba.underlying42 (zero4 w) (plainElem_bool Yba.underlying4 false) (keyOf_int_mk Yba.underlying22 hk)
  obtain ⟨x, rfl, hx⟩ := bool_inv hv
  rw [h2] at hx
  have e : (f k).getD false = x := by simpa using congrArg Prod.fst hx
  rw [e, ← h1]; exact hrun

/-- 'len(m)'. -/
theorem MB.len {w : World} {b n : Nat} {f : Int → Option Bool} {s : Nat} (h : MB w b n f s) (ty : TypeId) : (Builtin.len_ #[42] ty #[.map (some b)]).run Yba.prog w = .ok (.int .i64 s) w := by
  obtain ⟨D, h, h1, h2, rfl⟩ := h
  exact h.len Yba.underlying42 ty

theorem MB.below {B : Nat} {w w' : World} {b : Nat} (hm : w.mapTurned w' b) (hb : B ≤ b) (hB : B ≤ w.heap.size) : Below B w w' :=
  (Below.refl B w).grown hm.grown hB (fun k hk => by cases hk; exact hb)

/-- THE STRUCT index IN ITS BLOCK. -/
def boxCells (blocks st : Int) (m : Option Nat) : Array Value :=
  #[.nilIface, .int .u64 blocks, .bool true, .int .i32 st, .int .u32 0, .map none, .pointer none, .pointer none, .pointer none, .nilIface, .int .i64 0, .int .i64 0, .map m, .map none]
def Box (w : World) (X : Nat) (blocks st : Int) (m : Option Nat) : Prop := w.heap[X]? = some (.cells (boxCells blocks st m) 45 (0, 0))

theorem Box.cell {w : World} {X : Nat} {blocks st : Int} {m : Option Nat} (h : Box w X blocks st m) (o : Nat) : w.cell? ⟨X, o, none⟩ = (boxCells blocks st m)[o]? := by
  simp [World.cell?, show w.heap[X]? = _ from h]
theorem Box.cells {w : World} {X : Nat} {blocks st : Int} {m : Option Nat} (h : Box w X blocks st m) :
    w.cell? ⟨X, 0, none⟩ = some .nilIface ∧ w.cell? ⟨X, 1, none⟩ = some (.int .u64 blocks) ∧ w.cell? ⟨X, 2, none⟩ = some (.bool true) ∧ w.cell? ⟨X, 3, none⟩ = some (.int .i32 st) ∧
    w.cell? ⟨X, 5, none⟩ = some (.map none) ∧ w.cell? ⟨X, 11, none⟩ = some (.int .i64 0) ∧ w.cell? ⟨X, 12, none⟩ = some (.map m) ∧ w.cell? ⟨X, 13, none⟩ = some (.map none) :=
  ⟨h.cell 0, h.cell 1, h.cell 2, h.cell 3, h.cell 5, h.cell 11, h.cell 12, h.cell 13⟩
theorem Box.free {w : World} {X : Nat} {blocks st : Int} {m : Option Nat} (h : Box w X blocks st m) (o : Nat) : w.frozen? ⟨X, o, none⟩ = false := by
  simp [World.frozen?, show w.heap[X]? = _ from h]
theorem Box.lt {w : World} {X : Nat} {blocks st : Int} {m : Option Nat} (h : Box w X blocks st m) : X < w.heap.size := (Array.getElem?_eq_some_iff.1 h).1
theorem Box.block {w w' : World} {X : Nat} {blocks st : Int} {m : Option Nat} (h : Box w X blocks st m) (hb : w'.heap[X]? = w.heap[X]?) : Box w' X blocks st m := Eq.trans hb h
theorem Box.turned {w w' : World} {X b : Nat} {blocks st : Int} {m : Option Nat} (h : Box w X blocks st m) (ht : w.mapTurned w' b) (hne : X ≠ b) : Box w' X blocks st m :=
  h.block (ht.grown.block X h.lt (fun e => hne (Option.some.inj e)))
theorem Box.lock {w : World} {X : Nat} {blocks st : Int} {m : Option Nat} (h : Box w X blocks st m) (st' : Int) : Box (w.setCell ⟨X, 3, none⟩ (.int .i32 st')) X blocks st' m := by
  unfold Box at *
  simp [World.setCell, Array.getElem?_modify, h, boxCells]
theorem Box.field {w : World} {X : Nat} {blocks st : Int} {m : Option Nat} (h : Box w X blocks st m) (m' : Option Nat) : Box (w.setCell ⟨X, 12, none⟩ (.map m')) X blocks st m' := by
  unfold Box at *
  simp [World.setCell, Array.getElem?_modify, h, boxCells]

end Go.Proofs.Ybulkdzpq

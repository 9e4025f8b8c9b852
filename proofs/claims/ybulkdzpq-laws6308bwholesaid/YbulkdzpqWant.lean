/-
  Seat b6308a: the contract of zzs6308bwant (6) at a key that is not 'start' and a map that is not nil.
-/
import Derived.Test.YbulkdzpqMap
namespace Go.Proofs.Ybulkdzpq
open Go.RowKit Go.Maps

/-- The script's keys and values. -/
def keyF (zs : List Int) (i : Nat) : Int := zs.getD i 0
def valF (bs : List Bool) (lv : Nat) (i : Nat) : Bool := if lv = 0 then true else bs.getD (i % lv) false

/-- Where the values lie. -/
def Vals (w : World) (av : Option Addr) (lv : Nat) (bs : List Bool) : Prop :=
  lv = 0 ∨ ∃ b o, av = some ⟨b, o, none⟩ ∧ ∀ i, i < lv → w.cell? ⟨b, o + i, none⟩ = some (.bool (bs.getD i false))

theorem Vals.below {w w' : World} {av : Option Addr} {lv : Nat} {bs : List Bool} (h : Vals w av lv bs) (hb : Below w.heap.size w w') : Vals w' av lv bs := by
  rcases h with h | ⟨b, o, rfl, hc⟩
  · exact .inl h
  · refine .inr ⟨b, o, rfl, fun i hi => ?_⟩
    have hlt := World.block_lt_of_cell? w _ (hc i hi)
    exact (hb.cell (p := ⟨b, o + i, none⟩) hlt).trans (hc i hi)

set_option maxHeartbeats 800000 in
theorem want_hit (r : Bool) (k start : Int) (b o lk ck : Nat) (zs : List Int) (av : Option Addr) (lv cv : Nat) (bs : List Bool) (w : World) (hne : (k == start) = false) (hlk : lk ≤ 4096) (hlv : lv ≤ 9223372036854775807)
    (hk : ∀ i, i < lk → w.cell? ⟨b, o + i, none⟩ = some (.int .u64 (keyF zs i))) (hv : Vals w av lv bs) (HR : Hid (r = (Pl.M (keyF zs) (valF bs lv) lk k).getD false)) :
    Calls Yba.prog 6 #[.int .u64 k, .int .u64 start, .slice (some ⟨b, o, none⟩) lk ck, .slice av lv cv, .bool false] w fun e w' => e = .returned (.bool r) ∧ w' = w := by
  go_enter Yba.func6, Yba.ntmps6
  go_wp2
  go_loop [11] (fun x => ∃ j : Nat, j ≤ lk ∧ x = .int .i64 ((j : Int) - 1) ∧ Hid (Pl.M (keyF zs) (valF bs lv) lk k = Pl.M (keyF zs) (valF bs lv) j k)) (fun x => (intOf x + 1).toNat)
  case atStart => exact ⟨lk, Nat.le_refl _, rfl, rfl⟩
  case round =>
    obtain ⟨j, hj, rfl, HJ⟩ := hrel
    rcases Nat.eq_zero_or_pos j with h0 | h0
    · subst h0
      have e0 : (((0 : Nat) : Int) - 1) = -1 := rfl
      rw [e0]
      clear e0
      go_wp2
      go_ret
      obtain rfl : r = false := by rw [HR.out, HJ.out]; rfl
      exact ⟨rfl, rfl⟩
    · obtain ⟨i, rfl⟩ : ∃ i, j = i + 1 := ⟨j - 1, by omega⟩
      have ei : (((i + 1 : Nat) : Int) - 1) = (i : Int) := by omega
      rw [ei]
      clear ei
      have hci := hk i (by omega)
      by_cases hh : keyF zs i = k
      · have e2 : r = valF bs lv i := by rw [HR.out, HJ.out, Pl.M_step_hit hh]; rfl
        have E2 : Hid (r = valF bs lv i) := e2
        have hh' : (keyF zs i == k) = true := by simpa using hh
        clear hh e2 hk HJ HR
        generalize keyF zs i = ki at *
        rcases hv with h1 | ⟨bv, ov, rfl, hcv⟩
        · subst h1
          go_wp2
          go_ret
          obtain rfl : r = true := E2.out
          exact ⟨rfl, rfl⟩
        · rcases Nat.eq_zero_or_pos lv with h1 | h1
          · subst h1
            go_wp2
            go_ret
            obtain rfl : r = true := E2.out
            exact ⟨rfl, rfl⟩
          · have hm := hcv (i % lv) (Nat.mod_lt _ h1)
            have hlt := Nat.mod_lt i h1
            clear hcv
            go_wp2
            go_ret
            obtain rfl : r = bs.getD (i % lv) false := by rw [E2.out]; exact if_neg (by omega)
            exact ⟨rfl, rfl⟩
      · have hh' : (keyF zs i == k) = false := by simpa using hh
        have E2 : Hid (Pl.M (keyF zs) (valF bs lv) lk k = Pl.M (keyF zs) (valF bs lv) i k) := HJ.out.trans (Pl.M_step_miss hh)
        clear hh hk HJ
        go_wp2
        go_round
        case rel => exact ⟨i, by omega, by go_num, E2⟩
        case measure => simp [intOf]
end Go.Proofs.Ybulkdzpq

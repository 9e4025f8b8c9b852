/-
  Seat b6310aF: the contracts of the leaves.
-/
import Derived.Test.YbulkdzqsFmtRaw
import Derived.Deep.QuietTactic
import Derived.BigQuiet
namespace Go.Proofs.YbulkdzqsFmt
open Go.RowKit Go.Maps

def roleS (j : Nat) : ByteArray := ⟨(Pl.roleL j).toArray⟩
def resS (j : Nat) : ByteArray := ⟨(Pl.resL j).toArray⟩

theorem role4 (i : Int) (h0 : 0 ≤ i) (h1 : i ≤ 255) (w : World) : Calls Ybaf.prog 4 #[.int .u8 i] w fun e w' => e = .returned (.string (roleS (i % 6).toNat)) ∧ w' = w := by
  have h : i % 6 = 0 ∨ i % 6 = 1 ∨ i % 6 = 2 ∨ i % 6 = 3 ∨ i % 6 = 4 ∨ i % 6 = 5 := by omega
  generalize hm : i % 6 = m at *
  rcases h with rfl | rfl | rfl | rfl | rfl | rfl
  all_goals
    go_enter Ybaf.func4, Ybaf.ntmps4
    go_wp2
    go_ret
    exact ⟨rfl, rfl⟩

theorem res5 (i : Int) (h0 : 0 ≤ i) (h1 : i ≤ 255) (w : World) : Calls Ybaf.prog 5 #[.int .u8 i] w fun e w' => e = .returned (.string (resS (i % 5).toNat)) ∧ w' = w := by
  have h : i % 5 = 0 ∨ i % 5 = 1 ∨ i % 5 = 2 ∨ i % 5 = 3 ∨ i % 5 = 4 := by omega
  generalize hm : i % 5 = m at *
  rcases h with rfl | rfl | rfl | rfl | rfl
  all_goals
    go_enter Ybaf.func5, Ybaf.ntmps5
    go_wp2
    go_ret
    exact ⟨rfl, rfl⟩

theorem valid13 (p : Int) (h0 : 0 ≤ p) (h1 : p ≤ 62) (w : World) : Calls Ybaf.prog 13 #[.int .i64 p] w fun e w' => e = .returned (.bool true) ∧ w' = w := by
  go_enter Ybaf.func13, Ybaf.ntmps13
  go_wp2
  go_ret
  exact ⟨rfl, rfl⟩

theorem i64_or_nat (a b : Nat) (ha : a < 2 ^ 63) (hb : b < 2 ^ 63) : bits .or .i64 (a : Int) (b : Int) = ((a ||| b : Nat) : Int) := by
  have hx : a ||| b < 2 ^ 63 := Nat.or_lt_two_pow ha hb
  have h1 : (BitVec.ofInt 64 (a : Int)).toNat = a := by
    rw [BitVec.ofInt_natCast, BitVec.toNat_ofNat]; exact Nat.mod_eq_of_lt (by omega)
  have h2 : (BitVec.ofInt 64 (b : Int)).toNat = b := by
    rw [BitVec.ofInt_natCast, BitVec.toNat_ofNat]; exact Nat.mod_eq_of_lt (by omega)
  show IntKind.i64.wrap ((BitVec.ofInt 64 (a : Int) ||| BitVec.ofInt 64 (b : Int)).toNat : Int) = _
  rw [BitVec.toNat_or, h1, h2]
  simp [IntKind.wrap, IntKind.bits, IntKind.signed]
  omega
theorem pow_lt (p : Nat) (hp : p < 63) : 2 ^ p < 2 ^ 63 := Nat.pow_lt_pow_right (by omega) hp
theorem wrap_pow (p : Nat) (hp : p < 63) : wrap64 ((2 : Int) ^ p) = ((2 ^ p : Nat) : Int) := by
  have h := pow_lt p hp
  have e : ((2 : Int) ^ p) = ((2 ^ p : Nat) : Int) := by simp
  rw [e]
  generalize 2 ^ p = q at *
  unfold wrap64
  omega
theorem or_shl (m p : Nat) (hm : m < 2 ^ 63) (hp : p < 63) : bits .or .i64 (m : Int) (wrap64 ((2 : Int) ^ p)) = ((m ||| 2 ^ p : Nat) : Int) := by
  rw [wrap_pow p hp]; exact i64_or_nat m _ hm (pow_lt p hp)

theorem grant15 (m p : Nat) (hm : m < 2 ^ 63) (hp : p < 63) (w : World) : Calls Ybaf.prog 15 #[.int .i64 m, .int .i64 p] w fun e w' => e = .returned (.int .i64 ((m ||| 2 ^ p : Nat) : Int)) ∧ w' = w := by
  go_enter Ybaf.func15, Ybaf.ntmps15
  go_wp2_with (go_at_call 13; refine (valid13 _ (by omega) (by omega) _).mono ?_; rintro e w' ⟨rfl, rfl⟩)
  rw [or_shl m p hm hp]
  go_ret
  exact ⟨rfl, rfl⟩

theorem bg9 (w : World) : Calls Ybaf.prog 9 #[] w fun e w' => (∃ v, e = .returned v) ∧ w' = w := by
  go_enter Ybaf.func9, Ybaf.ntmps9
  go_wp2
  go_ret
  exact ⟨⟨_, rfl⟩, rfl⟩

theorem take_snocN (l : List Nat) (k : Nat) (h : k < l.length) : l.take (k + 1) = l.take k ++ [l.getD k 0] := by
  rw [List.take_succ_eq_append_getElem h]; simp [List.getD, h]
theorem Mk_take (l : List Nat) (k : Nat) (h : k < l.length) : Pl.Mk (l.take (k + 1)) = Pl.Mk (l.take k) ||| 2 ^ l.getD k 0 := by
  rw [take_snocN l k h, Pl.Mk_snoc]

set_option maxHeartbeats 800000 in
/-- grantedMask of permissions that are all valid: their mask, no error. -/
theorem mask11 (role res : Value) (g n cap : Nat) (l : List Nat) (w : World) (hl : l.length = n) (hn : n ≤ 1024) (h63 : ∀ p ∈ l, p < 63)
    (hc : ∀ i, i < n → w.cell? ⟨g, i, none⟩ = some (.int .i64 (l.getD i 0 : Nat))) :
    Calls Ybaf.prog 11 #[role, res, .slice (some ⟨g, 0, none⟩) n cap] w fun e w' => e = .returned (.tuple #[.int .i64 (Pl.Mk l : Nat), .nilIface]) ∧ w' = w := by
  have hget : ∀ i, i < n → l.getD i 0 < 63 := fun i hi => by
    rw [List.getD_eq_getElem?_getD, List.getElem?_eq_getElem (by omega)]
    exact h63 _ (List.getElem_mem _)
  have hlt : ∀ k, Pl.Mk (l.take k) < 2 ^ 63 := fun k => Pl.Mk_lt _ (fun p hp => h63 p (List.mem_of_mem_take hp))
  go_enter Ybaf.func11, Ybaf.ntmps11
  go_wp2
  go_loop [8, 13] (fun m i => ∃ k : Nat, k ≤ n ∧ i = .int .i64 k ∧ m = .int .i64 (Pl.Mk (l.take k) : Nat)) (fun _ i => n - (intOf i).toNat)
  case atStart => exact ⟨0, Nat.zero_le _, rfl, rfl⟩
  case round =>
    obtain ⟨k, hk, rfl, rfl⟩ := hrel
    by_cases hkn : k < n
    · have hck := hc k hkn
      have hp := hget k hkn
      have hM := hlt k
      have HK : Hid (Pl.Mk (l.take (k + 1)) = Pl.Mk (l.take k) ||| 2 ^ l.getD k 0) := Mk_take l k (by omega)
      clear hc hget hlt h63
      generalize l.getD k 0 = q at *
      go_wp2_with (first
        | (go_at_call 13; refine (valid13 _ (by omega) (by omega) _).mono ?_; rintro e w1 ⟨rfl, hw1⟩; subst hw1)
        | (go_at_call 15; refine (grant15 _ _ hM hp _).mono ?_; rintro e w1 ⟨rfl, hw1⟩; subst hw1))
      go_round
      case rel => exact ⟨k + 1, by omega, by go_num, by rw [HK.out]⟩
      case measure => simp [intOf]; omega
    · have hk' : l.take k = l := List.take_of_length_le (by omega)
      rw [hk']
      clear hk'
      go_wp2
      go_ret2
      exact ⟨rfl, rfl⟩

/-- Where a slice's strings lie: there is none, whatever the address; or they lie at a plain address. -/
def LiesS (w : World) (p : Option Addr) (n : Nat) (xs : List ByteArray) : Prop :=
  xs.length = n ∧ (n = 0 ∨ ∃ b o, p = some ⟨b, o, none⟩ ∧ ∀ i, i < n → w.cell? ⟨b, o + i, none⟩ = some (.string (xs.getD i ByteArray.empty)))

set_option maxHeartbeats 800000 in
theorem equal10_some (b1 o1 c1 b2 o2 c2 n : Nat) (xs : List ByteArray) (w : World) (hn : n ≤ 5000) (h1 : ∀ i, i < n → w.cell? ⟨b1, o1 + i, none⟩ = some (.string (xs.getD i ByteArray.empty))) (h2 : ∀ i, i < n → w.cell? ⟨b2, o2 + i, none⟩ = some (.string (xs.getD i ByteArray.empty))) :
    Calls Ybaf.prog 10 #[.slice (some ⟨b1, o1, none⟩) n c1, .slice (some ⟨b2, o2, none⟩) n c2] w fun e w' => e = .returned (.bool true) ∧ ∃ m, w' = w.drewN m := by
  go_enter Ybaf.func10, Ybaf.ntmps10
  go_wp2
  go_loopw [13] (fun i wr => ∃ k m : Nat, k ≤ n ∧ i = .int .i64 k ∧ wr = w.drewN m) (fun i _ => n - (intOf i).toNat)
  case atStart => exact ⟨0, 0, Nat.zero_le _, rfl, rfl⟩
  case round =>
    obtain ⟨k, m, hk, rfl, rfl⟩ := hrel
    by_cases hkn : k < n
    · have hc1 := h1 k hkn
      have hc2 := h2 k hkn
      have hkn' : (k : Int) < (n : Int) := by omega
      clear h1 h2
      generalize xs.getD k ByteArray.empty = s at *
      go_wp2_with fail
      go_quiet (fail)
      go_wp2
      go_roundw
      case rel => exact ⟨k + 1, _, by omega, by go_num, rfl⟩
      case measure => simp [intOf]; omega
    · go_wp2
      go_ret
      exact ⟨rfl, m, rfl⟩

theorem equal10_zero (p1 p2 : Option Addr) (c1 c2 : Nat) (w : World) :
    Calls Ybaf.prog 10 #[.slice p1 0 c1, .slice p2 0 c2] w fun e w' => e = .returned (.bool true) ∧ ∃ m, w' = w.drewN m := by
  go_enter Ybaf.func10, Ybaf.ntmps10
  go_wp2
  refine wp_loop_rounds 1 ?_
  rw [rounds_succ]
  go_wp2
  go_ret
  exact ⟨rfl, 0, rfl⟩

/-- slices.Equal of two slices of the same strings. -/
theorem equal10 (p1 p2 : Option Addr) (c1 c2 n : Nat) (xs : List ByteArray) (w : World) (hn : n ≤ 5000) (h1 : LiesS w p1 n xs) (h2 : LiesS w p2 n xs) :
    Calls Ybaf.prog 10 #[.slice p1 n c1, .slice p2 n c2] w fun e w' => e = .returned (.bool true) ∧ ∃ m, w' = w.drewN m := by
  obtain ⟨_, h1⟩ := h1
  obtain ⟨_, h2⟩ := h2
  rcases h1 with h1 | ⟨b1, o1, rfl, h1⟩
  · subst h1; exact equal10_zero p1 p2 c1 c2 w
  · rcases h2 with h2 | ⟨b2, o2, rfl, h2⟩
    · subst h2; exact equal10_zero _ p2 c1 c2 w
    · exact equal10_some b1 o1 c1 b2 o2 c2 n xs w hn h1 h2

theorem Ybaf.info9 : (Ybaf.prog.info? 9).map (fun i => (i.zero, i.size, i.bytes)) = some (some (.string ByteArray.empty), 1, 16) := by kernel_rfl

theorem str_one (l : List ByteArray) : ∀ u ∈ l.map Value.string, u.oneCell' = true := by
  intro u hu; simp at hu; obtain ⟨a, _, rfl⟩ := hu; rfl

set_option maxHeartbeats 800000 in
/-- slices.Clone of a slice that is not nil. -/
theorem clone7 (b n cap : Nat) (xs : List ByteArray) (w : World) (hn : n ≤ 5000) (hx : xs.length = n) (hc : ∀ i, i < n → w.cell? ⟨b, i, none⟩ = some (.string (xs.getD i ByteArray.empty))) :
    Calls Ybaf.prog 7 #[.slice (some ⟨b, 0, none⟩) n cap] w fun e w' => ∃ v', e = .returned v' ∧ w'.ownsRow w.heap.size 9 1 v' n (xs.map Value.string) ∧ Below w.heap.size w w' := by
  obtain ⟨i0, hi, hz0, hz1, hz2⟩ := info_parts Ybaf.info9
  have q37 : ∀ (w : World) (a : Option Addr) (n c n' c' : Nat), (binOp .eql 37 (.slice a n c) (.slice none n' c')).run Ybaf.prog w = .ok (.bool a.isNone) w := fun w a n c n' c' => Lib.run_eql_slice_nil w _ _ a n c n' c' Ybaf.underlying37
  have hown : (w.alloc (.cells #[] 9)).ownsRow w.heap.size 9 1 (.slice (some ⟨w.heap.size, 0, none⟩) 0 0) 0 [] := World.ownsRow_made w #[] 0 (Nat.le_refl _) (by unfold maxLen; omega) rfl
  have hnews : ∀ (j : Nat) u, (xs.map Value.string)[j]? = some u → (w.alloc (.cells #[] 9)).cell? ((⟨b, 0, none⟩ : Addr).add j) = some u := by
    intro j u hj
    simp [List.getElem?_map] at hj
    obtain ⟨a, ha, rfl⟩ := hj
    have hjl : j < n := by have := (List.getElem?_eq_some_iff.1 ha).1; omega
    have h := hc j hjl
    have e : (⟨b, 0, none⟩ : Addr).add j = ⟨b, j, none⟩ := by simp [Addr.add]; exact Eq.symm
    rw [e, World.cell?_alloc_lt (a := ⟨b, j, none⟩) (h := World.block_lt_of_cell? w _ h), h]
    simp [List.getD, ha]
  go_enter Ybaf.func7, Ybaf.ntmps7
  go_wp2_with (at_builtin; refine wpList_append_own _ rfl (.tmp 5) (.tmp 6) 37 rfl w.heap.size 9 i0 (.string ByteArray.empty) 1 16 Ybaf.underlying37 hi hz0 hz1 hz2 rfl (by decide) _ _ _ rfl hown ⟨b, 0, none⟩ n cap (xs.map Value.string) rfl (by simp [hx]) hnews (str_one xs) (by unfold maxLen; omega) (by omega) (by simp) ?_; intro v' w1 ho hg hd; clear hd)
  go_ret
  refine ⟨v', rfl, by simpa using ho, ((Below.refl _ w).alloc (Nat.le_refl _) _).grown hg (by simp) (fun k hk => ?_)⟩
  exact (hown.lt k hk).1

theorem clone7_nil (w : World) : Calls Ybaf.prog 7 #[.slice none 0 0] w fun e w' => e = .returned (.slice none 0 0) ∧ w' = w := by
  have q37 : ∀ (w : World) (a : Option Addr) (n c n' c' : Nat), (binOp .eql 37 (.slice a n c) (.slice none n' c')).run Ybaf.prog w = .ok (.bool a.isNone) w := fun w a n c n' c' => Lib.run_eql_slice_nil w _ _ a n c n' c' Ybaf.underlying37
  go_enter Ybaf.func7, Ybaf.ntmps7
  go_wp2
  go_ret
  exact ⟨rfl, rfl⟩

end Go.Proofs.YbulkdzqsFmt

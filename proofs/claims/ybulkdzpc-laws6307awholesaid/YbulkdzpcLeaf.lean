/-
  Seat b6307a: the contracts of the leaves: appendDecimalEscape (8), zzs6307aesc (4), bytes.Equal (6).
-/
import Derived.Test.YbulkdzpcRows
import Derived.Test.YbulkdzpcPlain
import Derived.WalkKit
import Derived.Laws.BytesArg
namespace Go.Proofs.Ybulkdzpc
open Go.RowKit

theorem Yba.info5 : (Yba.prog.info? 5).map (fun i => (i.zero, i.size, i.bytes)) = some (some (.int .u8 0), 1, 1) := by kernel_rfl

theorem add0 (b j : Nat) : (⟨b, 0, none⟩ : Addr).add j = ⟨b, j, none⟩ := by simp [Addr.add]; exact Eq.symm

/-- The cells of a block that was just laid for an append's new elements. -/
theorem news_laid (w : World) (l : List Value) (t : TypeId) : ∀ j u, l[j]? = some u → (w.alloc (.cells l.toArray t)).cell? ((⟨w.heap.size, 0, none⟩ : Addr).add j) = some u := by
  intro j u h
  rw [add0, World.cell?_alloc_at _ _ _ _ rfl]
  simpa using h

theorem u8_one (l : List Int) : ∀ u ∈ l.map (Value.int .u8), u.oneCell' = true := by
  intro u hu; simp at hu; obtain ⟨a, _, rfl⟩ := hu; rfl

theorem below_app {base : Nat} {w w' : World} {v : Value} {n : Nat} {xs : List Value} {o : Obj} (hown : w.ownsRow base 5 1 v n xs) (hb : base ≤ w.heap.size) (hg : (w.alloc o).grownBy w' v.ownBlock) : Below base w w' :=
  ((Below.refl base w).alloc hb o).grown hg (by simp; omega) (fun k hk => (hown.lt k hk).1)

/-- What each of the appending functions leaves: the octets 'l' behind what was owned. -/
def Adds (base : Nat) (n : Nat) (xs : List Int) (l : List Int) (w : World) (e : Ending) (w' : World) : Prop :=
  ∃ v', e = .returned v' ∧ w'.ownsRow base 5 1 v' (n + l.length) ((xs ++ l).map (Value.int .u8)) ∧ Below base w w'

theorem adds_of {base n : Nat} {xs l : List Int} {w w' : World} {v' : Value} {m : Nat} {ys : List Value} (h : w'.ownsRow base 5 1 v' (n + m) (xs.map (Value.int .u8) ++ ys)) (hm : m = l.length) (hy : ys = l.map (Value.int .u8)) (hb : Below base w w') :
    Adds base n xs l w (.returned v') w' := by
  subst hm; subst hy
  exact ⟨v', rfl, by simpa using h, hb⟩

set_option maxHeartbeats 400000 in
theorem dec8 (base : Nat) (v : Value) (n : Nat) (xs : List Int) (c : Int) (h0 : 0 ≤ c) (h1 : c ≤ 255) (w : World) (hown : w.ownsRow base 5 1 v n (xs.map (Value.int .u8))) (hb : base ≤ w.heap.size) (hn : n ≤ 1099511627776)
    (ho : ¬ (32 ≤ c ∧ c ≤ 126)) :
    Calls Yba.prog 8 #[v, .int .u8 c] w (Adds base n xs (Pl.esc c) w) := by
  obtain ⟨i0, hi, hz0, hz1, hz2⟩ := info_parts Yba.info5
  have he : Hid (Pl.esc c = [92, 48 + c / 100, 48 + c / 10 % 10, 48 + c % 10]) := Pl.esc_out ho
  clear ho
  go_enter Yba.func8, Yba.ntmps8
  go_wp2_with (at_builtin; refine wpList_append_own _ rfl (.tmp 5) (.tmp 16) 22 rfl base 5 i0 (.int .u8 0) 1 1 Yba.underlying22 hi hz0 hz1 hz2 rfl (by decide) _ _ _ rfl (hown.alloc _) ⟨w.heap.size, 0, none⟩ 4 4 [.int .u8 92, .int .u8 (48 + c / 100), .int .u8 (48 + c / 10 % 10), .int .u8 (48 + c % 10)] rfl rfl (news_laid w _ 5) ?c2 ?c3 ?c4 ?c5 ?_)
  case c2 => intro u hu; simp at hu; rcases hu with rfl | rfl | rfl | rfl <;> rfl
  case c3 => unfold maxLen; omega
  case c4 => omega
  case c5 => simp; omega
  intro v' w1 hown' hgrow _
  go_wp2
  go_ret
  exact adds_of hown' (by rw [he.out]; rfl) (by rw [he.out]; rfl) (below_app hown hb hgrow)

set_option maxHeartbeats 800000 in
theorem esc4_in (base : Nat) (v : Value) (n : Nat) (xs : List Int) (c : Int) (w : World) (hown : w.ownsRow base 5 1 v n (xs.map (Value.int .u8))) (hb : base ≤ w.heap.size) (hn : n ≤ 1099511627776)
    (h0 : 32 ≤ c) (h1 : c ≤ 126) :
    Calls Yba.prog 4 #[v, .int .u8 c] w (Adds base n xs (Pl.esc c) w) := by
  obtain ⟨i0, hi, hz0, hz1, hz2⟩ := info_parts Yba.info5
  by_cases h2 : c = 34 ∨ c = 92
  · have he : Hid (Pl.esc c = [92, c]) := Pl.esc_two ⟨h0, h1⟩ h2
    have hsp : (c == 34) = true ∨ ((c == 34) = false ∧ (c == 92) = true) := by
      rcases h2 with rfl | rfl
      · exact .inl rfl
      · exact .inr ⟨rfl, rfl⟩
    clear h2
    rcases hsp with q | ⟨q, q2⟩
    all_goals
      go_enter Yba.func4, Yba.ntmps4
      go_wp2_with (at_builtin; refine wpList_append_own _ rfl (.tmp 20) (.tmp 22) 22 rfl base 5 i0 (.int .u8 0) 1 1 Yba.underlying22 hi hz0 hz1 hz2 rfl (by decide) _ _ _ rfl (hown.alloc _) ⟨w.heap.size, 0, none⟩ 2 2 [.int .u8 92, .int .u8 c] rfl rfl (news_laid w _ 5) (by intro u hu; simp at hu; rcases hu with rfl | rfl <;> rfl) (by unfold maxLen; omega) (by omega) (by simp; omega) ?_)
      intro v' w1 hown' hgrow _
      go_wp2
      go_ret
      exact adds_of hown' (by rw [he.out]; rfl) (by rw [he.out]; rfl) (below_app hown hb hgrow)
  · have he : Hid (Pl.esc c = [c]) := Pl.esc_one ⟨h0, h1⟩ h2
    have q : (c == 34) = false := beq_eq_false_iff_ne.2 (by omega)
    have q2 : (c == 92) = false := beq_eq_false_iff_ne.2 (by omega)
    clear h2
    go_enter Yba.func4, Yba.ntmps4
    go_wp2_with (at_builtin; refine wpList_append_own _ rfl (.tmp 24) (.tmp 26) 22 rfl base 5 i0 (.int .u8 0) 1 1 Yba.underlying22 hi hz0 hz1 hz2 rfl (by decide) _ _ _ rfl (hown.alloc _) ⟨w.heap.size, 0, none⟩ 1 1 [.int .u8 c] rfl rfl (news_laid w _ 5) (by intro u hu; simp at hu; subst hu; rfl) (by unfold maxLen; omega) (by omega) (by simp; omega) ?_)
    intro v' w1 hown' hgrow _
    go_wp2
    go_ret
    exact adds_of hown' (by rw [he.out]; rfl) (by rw [he.out]; rfl) (below_app hown hb hgrow)

set_option maxHeartbeats 800000 in
theorem esc4_out (base : Nat) (v : Value) (n : Nat) (xs : List Int) (c : Int) (w : World) (hown : w.ownsRow base 5 1 v n (xs.map (Value.int .u8))) (hb : base ≤ w.heap.size) (hn : n ≤ 1099511627776)
    (h0 : 0 ≤ c) (h1 : c ≤ 255) (ho : ¬ (32 ≤ c ∧ c ≤ 126)) :
    Calls Yba.prog 4 #[v, .int .u8 c] w (Adds base n xs (Pl.esc c) w) := by
  obtain ⟨i0, hi, hz0, hz1, hz2⟩ := info_parts Yba.info5
  have he : Hid (Pl.esc c = [92, 48 + c / 100, 48 + c / 10 % 10, 48 + c % 10]) := Pl.esc_out ho
  have hsp : c < 32 ∨ 126 < c := by omega
  clear ho
  rcases hsp with q | q
  all_goals
    go_enter Yba.func4, Yba.ntmps4
    go_wp2
    go_loop [5, 6] (fun x y => ∃ a h : Int, x = .int .i64 a ∧ y = .int .i64 h ∧ 0 ≤ a ∧ 0 ≤ h ∧ a + 100 * h ≤ c ∧ c ≤ a + 100 * h) (fun x _ => (intOf x).toNat)
    case atStart => exact ⟨c, 0, rfl, rfl, h0, by omega, by omega, by omega⟩
    case round =>
      obtain ⟨a, h, rfl, rfl, ha, hh, hl, hr⟩ := hrel
      by_cases hlt : 100 ≤ a
      · go_wp2
        go_round
        case rel => exact ⟨a - 100, h + 1, by go_num, by go_num, by omega, by omega, by omega, by omega⟩
        case measure => simp [intOf]; omega
      · go_wp2
        go_loop [5, 7] (fun x y => ∃ b t : Int, x = .int .i64 b ∧ y = .int .i64 t ∧ 0 ≤ b ∧ 0 ≤ t ∧ b + 10 * t ≤ a ∧ a ≤ b + 10 * t) (fun x _ => (intOf x).toNat)
        case atStart => exact ⟨a, 0, rfl, rfl, ha, by omega, by omega, by omega⟩
        case round =>
          obtain ⟨b, t, rfl, rfl, hb0, ht0, hl2, hr2⟩ := hrel
          by_cases hlt2 : 10 ≤ b
          · go_wp2
            go_round
            case rel => exact ⟨b - 10, t + 1, by go_num, by go_num, by omega, by omega, by omega, by omega⟩
            case measure => simp [intOf]; omega
          · go_wp2_with (at_builtin; refine wpList_append_own _ rfl (.tmp 42) (.tmp 52) 22 rfl base 5 i0 (.int .u8 0) 1 1 Yba.underlying22 hi hz0 hz1 hz2 rfl (by decide) _ _ _ rfl (hown.alloc _) ⟨w.heap.size, 0, none⟩ 4 4 [.int .u8 92, .int .u8 (48 + h), .int .u8 (48 + t), .int .u8 (48 + b)] rfl rfl (news_laid w _ 5) (by intro u hu; simp at hu; rcases hu with rfl | rfl | rfl | rfl <;> rfl) (by unfold maxLen; omega) (by omega) (by simp; omega) ?_)
            intro v' w1 hown' hgrow _
            go_wp2
            go_ret
            have e1 : c / 100 = h := by omega
            have e2 : c / 10 % 10 = t := by omega
            have e3 : c % 10 = b := by omega
            exact adds_of hown' (by rw [he.out]; rfl) (by rw [he.out, e1, e2, e3]; rfl) (below_app hown hb hgrow)

/-- Where a slice's octets lie: there is none, whatever the address; or they lie at a plain address. -/
def Lies (w : World) (p : Option Addr) (n : Nat) (zs : List Int) : Prop :=
  zs.length = n ∧ (n = 0 ∨ ∃ b o, p = some ⟨b, o, none⟩ ∧ ∀ i, i < n → w.cell? ⟨b, o + i, none⟩ = some (.int .u8 (zs.getD i 0)))

theorem conv_of {w : World} {p : Option Addr} {n : Nat} {zs : List Int} (h : Lies w p n zs) (c : Nat) : (convert 22 9 (.slice p n c)).run Yba.prog w = .ok (.string (strOfNums zs)) w := by
  obtain ⟨hl, h | ⟨b, o, rfl, hc⟩⟩ := h
  · subst h
    obtain rfl : zs = [] := List.eq_nil_of_length_eq_zero hl
    rw [run_convert_bytes_string w 22 9 5 _ 0 c Yba.underlying22 Yba.underlying5 Yba.underlying9]
    cases p <;> simp [Conv.bytesToString, loadCells]
    all_goals rfl
  · exact run_convert_bytes_arg (P := Yba.prog) w 22 5 Yba.underlying22 Yba.underlying5 b o n c zs hl hc 9 Yba.underlying9

theorem equal6 (p1 p2 : Option Addr) (n1 c1 n2 c2 : Nat) (zs : List Int) (w : World) (h1 : Lies w p1 n1 zs) (h2 : Lies w p2 n2 zs) :
    Calls Yba.prog 6 #[.slice p1 n1 c1, .slice p2 n2 c2] w fun e w' => e = .returned (.bool true) ∧ w' = w := by
  have g1 := conv_of h1 c1
  have g2 := conv_of h2 c2
  clear h1 h2
  go_enter Yba.func6, Yba.ntmps6
  go_wp2
  go_ret
  exact ⟨by simp, rfl⟩

end Go.Proofs.Ybulkdzpc

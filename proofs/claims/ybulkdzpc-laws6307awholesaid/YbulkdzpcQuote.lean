/-
  Seat b6307a: the contracts of appendEscaped (7) and appendQuoted (5).
-/
import Derived.Test.YbulkdzpcLeaf
namespace Go.Proofs.Ybulkdzpc
open Go.RowKit

theorem adds_step {base n k : Nat} {zs xs : List Int} {w' : World} {v' : Value} {m : Nat} {ys : List Value} (hk : k < zs.length)
    (h : w'.ownsRow base 5 1 v' ((n + (Pl.escs (zs.take k)).length) + m) ((xs ++ Pl.escs (zs.take k)).map (Value.int .u8) ++ ys)) (hm : m = (Pl.esc (zs.getD k 0)).length) (hy : ys = (Pl.esc (zs.getD k 0)).map (Value.int .u8)) :
    w'.ownsRow base 5 1 v' (n + (Pl.escs (zs.take (k + 1))).length) ((xs ++ Pl.escs (zs.take (k + 1))).map (Value.int .u8)) := by
  subst hm; subst hy
  rw [Pl.escs_take zs k hk]
  simpa [Nat.add_assoc] using h

set_option maxHeartbeats 1600000 in
theorem escaped7 (base : Nat) (v : Value) (n : Nat) (xs : List Int) (b o len cap : Nat) (zs : List Int) (w : World) (hown : w.ownsRow base 5 1 v n (xs.map (Value.int .u8))) (hb : base ≤ w.heap.size) (hn : n ≤ 1048579) (hlen : len ≤ 1048576)
    (hz : zs.length = len) (hlt : b < base) (hc : ∀ i, i < len → w.cell? ⟨b, o + i, none⟩ = some (.int .u8 (zs.getD i 0))) (hr : ∀ i, 0 ≤ zs.getD i 0 ∧ zs.getD i 0 ≤ 255) :
    Calls Yba.prog 7 #[v, .slice (some ⟨b, o, none⟩) len cap] w (Adds base n xs (Pl.escs zs) w) := by
  obtain ⟨i0, hi, hz0, hz1, hz2⟩ := info_parts Yba.info5
  go_enter Yba.func7, Yba.ntmps7
  go_wp2
  go_loopw [0, 9] (fun u i wr => ∃ k : Nat, k ≤ len ∧ i = .int .i64 k ∧ wr.ownsRow base 5 1 u (n + (Pl.escs (zs.take k)).length) ((xs ++ Pl.escs (zs.take k)).map (Value.int .u8)) ∧ Below base w wr)
    (fun _ i _ => len - (intOf i).toNat)
  case atStart => exact ⟨0, Nat.zero_le _, rfl, by simpa [Pl.escs] using hown, Below.refl _ _⟩
  case round =>
    obtain ⟨k, hk, rfl, hown1, hbel⟩ := hrel
    have hsz := hbel.size
    have hel := Pl.escs_len (zs.take k)
    have htl : (zs.take k).length ≤ k := List.length_take_le _ _
    by_cases hkl : k < len
    · have hcell : wr.cell? ⟨b, o + k, none⟩ = some (.int .u8 (zs.getD k 0)) := (hbel.cell (by exact hlt)).trans (hc k hkl)
      have hrk := hr k
      have hkz : k < zs.length := by omega
      have hgr : ∀ (l : List Value) (v' : Value) (w1 : World), (wr.alloc (.cells l.toArray 5)).grownBy w1 u0.ownBlock → Below base w w1 := fun l v' w1 hg => hbel.trans (below_app hown1 (Nat.le_trans hb hsz) hg)
      clear hc hr hown
      obtain ⟨c, hcc⟩ : ∃ c, c = zs.getD k 0 := ⟨_, rfl⟩
      rw [← hcc] at hcell hrk
      have HC : Hid (c = zs.getD k 0) := hcc
      clear hcc
      rcases (show (c < 32 ∨ 126 < c) ∨ (32 ≤ c ∧ c ≤ 126 ∧ (c = 34 ∨ c = 92)) ∨ (32 ≤ c ∧ c ≤ 126 ∧ ¬ (c = 34 ∨ c = 92)) from by omega) with q | ⟨q1, q2, q3⟩ | ⟨q1, q2, q3⟩
      · rcases q with q | q
        all_goals
          go_wp2_with (go_at_call 8; refine (dec8 base _ _ _ c hrk.1 hrk.2 wr hown1 (Nat.le_trans hb hsz) (by omega) (by omega)).mono ?_; rintro e w2 ⟨v', rfl, hown2, hbel2⟩)
          go_roundw
          case rel => exact ⟨k + 1, by omega, by go_num, adds_step hkz (by simpa using hown2) (by rw [← HC.out]) (by rw [← HC.out]), hbel.trans hbel2⟩
          case measure => simp [intOf]; omega
      · have he : Hid (Pl.esc c = [92, c]) := Pl.esc_two ⟨q1, q2⟩ q3
        have hsp : (c == 34) = true ∨ ((c == 34) = false ∧ (c == 92) = true) := by
          rcases q3 with rfl | rfl
          · exact .inl rfl
          · exact .inr ⟨rfl, rfl⟩
        clear q3
        rcases hsp with q | ⟨q, q2⟩
        all_goals
          go_wp2_with (at_builtin; refine wpList_append_own _ rfl (.tmp 34) (.tmp 36) 22 rfl base 5 i0 (.int .u8 0) 1 1 Yba.underlying22 hi hz0 hz1 hz2 rfl (by decide) _ _ _ rfl (hown1.alloc _) ⟨wr.heap.size, 0, none⟩ 2 2 [.int .u8 92, .int .u8 c] rfl rfl (news_laid wr _ 5) (by intro u hu; simp at hu; rcases hu with rfl | rfl <;> rfl) (by unfold maxLen; omega) (by omega) (by simp; omega) ?_; intro v' w2 hown2 hgrow _)
          go_roundw
          case rel => exact ⟨k + 1, by omega, by go_num, adds_step hkz hown2 (by rw [← HC.out, he.out]; rfl) (by rw [← HC.out, he.out]; rfl), hgr _ v' _ hgrow⟩
          case measure => simp [intOf]; omega
      · have he : Hid (Pl.esc c = [c]) := Pl.esc_one ⟨q1, q2⟩ q3
        have q : (c == 34) = false := beq_eq_false_iff_ne.2 (by omega)
        have q2 : (c == 92) = false := beq_eq_false_iff_ne.2 (by omega)
        clear q3
        go_wp2_with (at_builtin; refine wpList_append_own _ rfl (.tmp 13) (.tmp 15) 22 rfl base 5 i0 (.int .u8 0) 1 1 Yba.underlying22 hi hz0 hz1 hz2 rfl (by decide) _ _ _ rfl (hown1.alloc _) ⟨wr.heap.size, 0, none⟩ 1 1 [.int .u8 c] rfl rfl (news_laid wr _ 5) (by intro u hu; simp at hu; subst hu; rfl) (by unfold maxLen; omega) (by omega) (by simp; omega) ?_; intro v' w2 hown2 hgrow _)
        go_roundw
        case rel => exact ⟨k + 1, by omega, by go_num, adds_step hkz hown2 (by rw [← HC.out, he.out]; rfl) (by rw [← HC.out, he.out]; rfl), hgr _ v' _ hgrow⟩
        case measure => simp [intOf]; omega
    · go_wp2
      go_ret
      refine ⟨_, rfl, ?_, hbel⟩
      rw [List.take_of_length_le (by omega)] at hown1
      exact hown1

theorem escaped7_none (base : Nat) (v : Value) (n : Nat) (xs : List Int) (p : Option Addr) (cap : Nat) (w : World) (hown : w.ownsRow base 5 1 v n (xs.map (Value.int .u8))) :
    Calls Yba.prog 7 #[v, .slice p 0 cap] w (Adds base n xs (Pl.escs []) w) := by
  go_enter Yba.func7, Yba.ntmps7
  go_wp2
  refine wp_loop_rounds 1 ?_
  rw [rounds_succ]
  go_wp2
  go_ret
  exact ⟨_, rfl, by simpa [Pl.escs] using hown, Below.refl _ _⟩

/-- appendEscaped, wherever v's octets lie. -/
theorem escaped7_any (base : Nat) (v : Value) (n : Nat) (xs : List Int) (p : Option Addr) (len cap : Nat) (zs : List Int) (w w0 : World) (hown : w.ownsRow base 5 1 v n (xs.map (Value.int .u8))) (hb : base ≤ w.heap.size) (hn : n ≤ 1048579) (hlen : len ≤ 1048576)
    (hl : Lies w0 p len zs) (hbel : Below base w0 w) (hsz : w0.heap.size ≤ base) (hr : ∀ i, 0 ≤ zs.getD i 0 ∧ zs.getD i 0 ≤ 255) :
    Calls Yba.prog 7 #[v, .slice p len cap] w (Adds base n xs (Pl.escs zs) w) := by
  obtain ⟨hz, h0 | ⟨b, o, rfl, hc⟩⟩ := hl
  · subst h0
    obtain rfl : zs = [] := List.eq_nil_of_length_eq_zero hz
    exact escaped7_none base v n xs p cap w hown
  · rcases Nat.eq_zero_or_pos len with h0 | h0
    · subst h0
      obtain rfl : zs = [] := List.eq_nil_of_length_eq_zero hz
      exact escaped7_none base v n xs _ cap w hown
    · have hlt : b < base := by
        have := World.block_lt_of_cell? w0 _ (hc 0 h0)
        simp at this; omega
      exact escaped7 base v n xs b o len cap zs w hown hb hn hlen hz hlt (fun i hi => (hbel.cell (by exact hlt)).trans (hc i hi)) hr

theorem owns_lower {w : World} {base base' : Nat} {v : Value} {n : Nat} {xs : List Value} (h : w.ownsRow base 5 1 v n xs) (hb : base' ≤ base) : w.ownsRow base' 5 1 v n xs := by
  obtain ⟨h1, h2⟩ := h
  refine ⟨h1, ?_⟩
  rcases h2 with h2 | ⟨g, cap, cur, hv, hg, r⟩
  · exact .inl h2
  · exact .inr ⟨g, cap, cur, hv, by omega, r⟩

/-- What appendQuoted appends. -/
def quot (zs : List Int) : List Int := [34] ++ Pl.escs zs ++ [34]
theorem quot_len (zs : List Int) : (quot zs).length = (Pl.escs zs).length + 2 := by simp [quot]

/-- appendQuoted on a slice without room to spare: nothing that was there is written. -/
theorem quoted5 (n b1 : Nat) (xs : List Int) (p : Option Addr) (len cap : Nat) (zs : List Int) (w : World) (hn : n ≤ 1048576) (hlen : len ≤ 1048576)
    (hx : xs.length = n) (hc1 : ∀ i, i < n → w.cell? ⟨b1, i, none⟩ = some (.int .u8 (xs.getD i 0)))
    (hl : Lies w p len zs) (hr : ∀ i, 0 ≤ zs.getD i 0 ∧ zs.getD i 0 ≤ 255) :
    Calls Yba.prog 5 #[.slice (some ⟨b1, 0, none⟩) n n, .slice p len cap] w (Adds w.heap.size n xs (quot zs) w) := by
  obtain ⟨i0, hi, hz0, hz1, hz2⟩ := info_parts Yba.info5
  have holds : ∀ b, some (⟨b1, 0, none⟩ : Addr) = some b → ∀ (j : Nat) u, (xs.map (Value.int .u8))[j]? = some u → (w.alloc (.cells #[Value.int .u8 34] 5)).cell? (b.add j) = some u := by
    intro b hb j u hj
    obtain rfl := Option.some.inj hb
    have hjl : j < n := by
      have := (List.getElem?_eq_some_iff.1 hj).1
      simpa [hx] using this
    have hc := hc1 j hjl
    rw [add0]
    have hlt := World.block_lt_of_cell? w _ hc
    rw [World.cell?_alloc_lt (a := ⟨b1, j, none⟩) (h := hlt), hc]
    simp [List.getElem?_map] at hj
    obtain ⟨a, ha, rfl⟩ := hj
    simp [List.getD, ha]
  have hel := Pl.escs_len zs
  have hzl := hl.1
  go_enter Yba.func5, Yba.ntmps5
  go_wp2_with (at_builtin; refine wpList_append_grows _ rfl (.tmp 5) (.tmp 6) 22 rfl 5 i0 (.int .u8 0) 1 1 Yba.underlying22 hi hz0 hz1 hz2 rfl (by decide) (some ⟨b1, 0, none⟩) n n (xs.map (Value.int .u8)) rfl (by intro h; cases h) (by simp [hx]) holds ⟨w.heap.size, 0, none⟩ 1 1 [.int .u8 34] rfl rfl (news_laid w _ 5) (by intro u hu; simp at hu; subst hu; rfl) (by omega) (by unfold maxLen; omega) (by omega) ?_; intro v1 w1 hown1 hgrow1)
  have hb1 : Below w.heap.size w w1 := ((Below.refl _ w).alloc (Nat.le_refl _) _).grown hgrow1 (by simp) (fun k h => by cases h)
  have ho1 : w1.ownsRow w.heap.size 5 1 v1 (n + 1) ((xs ++ [34]).map (Value.int .u8)) := by simpa using owns_lower (base' := w.heap.size) hown1 (by simp)
  clear hown1 hgrow1 holds
  have hs1 := hb1.size
  refine (escaped7_any w.heap.size v1 (n + 1) (xs ++ [34]) p len cap zs w1 w ho1 hs1 (by omega) hlen hl hb1 (Nat.le_refl _) hr).mono ?_
  rintro e w2 ⟨v2, rfl, ho2, hb2⟩
  have hs2 := hb2.size
  go_wp2_with (at_builtin; refine wpList_append_own _ rfl (.tmp 11) (.tmp 12) 22 rfl w.heap.size 5 i0 (.int .u8 0) 1 1 Yba.underlying22 hi hz0 hz1 hz2 rfl (by decide) _ _ _ rfl (ho2.alloc _) ⟨w2.heap.size, 0, none⟩ 1 1 [.int .u8 34] rfl rfl (news_laid w2 _ 5) (by intro u hu; simp at hu; subst hu; rfl) (by unfold maxLen; omega) (by omega) (by simp; omega) ?_; intro v3 w3 ho3 hg3 _)
  go_ret
  refine ⟨v3, rfl, ?_, (hb1.trans hb2).trans (below_app ho2 (by omega) hg3)⟩
  rw [quot_len]
  have e1 : n + ((Pl.escs zs).length + 2) = n + 1 + (Pl.escs zs).length + 1 := by omega
  rw [e1]
  simpa [quot] using ho3
end Go.Proofs.Ybulkdzpc

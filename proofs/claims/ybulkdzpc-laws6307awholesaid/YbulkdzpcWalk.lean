/-
  Seat b6307a: the walk of the law itself (3).
-/
import Derived.Test.YbulkdzpcWorlds
namespace Go.Proofs.Ybulkdzpc
open Go.RowKit

theorem long (a0 : Option Addr) (len0 cap0 : Nat) (a1 : Option Addr) (len1 cap1 : Nat) (w : World) (h0 : len0 ≤ 140737488351232) (h1 : len1 ≤ 140737488351232) (h : 1048576 < len0 + len1) :
    Calls Yba.prog 3 #[.slice a0 len0 cap0, .slice a1 len1 cap1] w fun e w' => e = .returned (.bool true) ∧ Below w.heap.size w w' := by
  go_enter Yba.func3, Yba.ntmps3
  go_wp2
  go_ret
  exact ⟨rfl, Below.refl _ _⟩

theorem esc4 (base : Nat) (v : Value) (n : Nat) (xs : List Int) (c : Int) (w : World) (hown : w.ownsRow base 5 1 v n (xs.map (Value.int .u8))) (hb : base ≤ w.heap.size) (hn : n ≤ 1099511627776)
    (h0 : 0 ≤ c) (h1 : c ≤ 255) :
    Calls Yba.prog 4 #[v, .int .u8 c] w (Adds base n xs (Pl.esc c) w) := by
  by_cases ho : 32 ≤ c ∧ c ≤ 126
  · exact esc4_in base v n xs c w hown hb hn ho.1 ho.2
  · exact esc4_out base v n xs c w hown hb hn h0 h1 ho

theorem esc_step {base n k : Nat} {zs xs : List Int} (hk : k < zs.length) : ∀ (w' : World) (v' : Value)
    (_ : w'.ownsRow base 5 1 v' ((n + (Pl.escs (zs.take k)).length) + (Pl.esc (zs.getD k 0)).length) ((xs ++ Pl.escs (zs.take k) ++ Pl.esc (zs.getD k 0)).map (Value.int .u8))),
    w'.ownsRow base 5 1 v' (n + (Pl.escs (zs.take (k + 1))).length) ((xs ++ Pl.escs (zs.take (k + 1))).map (Value.int .u8)) :=
  fun _ _ h => adds_step hk (by simpa using h) rfl rfl

set_option maxHeartbeats 4000000 in
theorem short (a0 : Option Addr) (len0 cap0 : Nat) (xs : List Int) (a1 : Option Addr) (len1 cap1 : Nat) (zs : List Int) (w : World) (h : len0 + len1 ≤ 1048576) (hl0 : Lies w a0 len0 xs) (hl1 : Lies w a1 len1 zs)
    (hr : ∀ i, 0 ≤ zs.getD i 0 ∧ zs.getD i 0 ≤ 255) :
    Calls Yba.prog 3 #[.slice a0 len0 cap0, .slice a1 len1 cap1] w fun e w' => e = .returned (.bool true) ∧ Below w.heap.size w w' := by
  obtain ⟨i0, hi, hz0, hz1, hz2⟩ := info_parts Yba.info5
  have hs5 : (Yba.prog.info? 5).map (·.size) = some 1 := by rw [hi]; simp [hz1]
  have hxl := hl0.1
  have hzl := hl1.1
  have hxm : (xs.map (Value.int .u8)).length = Nat.min len0 len0 := by rw [List.length_map, hxl]; exact (Nat.min_self _).symm
  have hzm : (zs.map (Value.int .u8)).length = Nat.min len1 len1 := by rw [List.length_map, hzl]; exact (Nat.min_self _).symm
  have hlx : ∀ (l : List Value), l.length = len0 → 0 + (xs.map (Value.int .u8)).length ≤ l.length := fun l h => by simp [hxl, h]
  have hlz : ∀ (l : List Value), l.length = len1 → 0 + (zs.map (Value.int .u8)).length ≤ l.length := fun l h => by simp [hzl, h]
  go_enter Yba.func3, Yba.ntmps3
  go_wp2_with (first
    | (at_make; refine wpList_make_full _ rfl (.tmp 18) (.tmp 18) 22 rfl w.heap.size 5 i0 (.int .u8 0) 1 Yba.underlying22 hi hz0 hz1 _ _ _ _ len0 rfl rfl rfl rfl (by rw [hz2]; omega) (by unfold maxLen; omega) (Nat.le_refl _) ?_; intro w1 ho1 hg1; obtain ⟨HF1, hn1, hb1⟩ := made_row ho1 hg1; have hq1 := lies_below hl0 hb1 (Nat.le_refl _); have hp1 := lies_below hl1 hb1 (Nat.le_refl _); clear ho1 hg1)
    | (refine wpList_copy_splice rfl (.tmp 20) (.tmp 21) 22 22 rfl 5 Yba.underlying22 hs5 _ _ len0 len0 len0 cap0 rfl rfl w.heap.size 0 _ 5 HF1.out (xs.map (Value.int .u8)) hxm (lies_src hq1) (hlx _ hn1) (u8_one xs) w.heap.size w1 (Below.refl _ _) (Nat.le_refl _) ?_; intro w2 HG2 hb2; obtain ⟨hc2, hx2⟩ := copied_row hxl hn1 HG2 hb1 hb2; have hq2 := lies_below hl0 hx2 (Nat.le_refl _); have hp2 := lies_below hl1 hx2 (Nat.le_refl _); clear HF1 HG2 hn1 hb1 hb2 hq1 hp1)
    | (at_make; refine wpList_make_full _ rfl (.tmp 24) (.tmp 24) 22 rfl w2.heap.size 5 i0 (.int .u8 0) 1 Yba.underlying22 hi hz0 hz1 _ _ _ _ len0 rfl rfl rfl rfl (by rw [hz2]; omega) (by unfold maxLen; omega) (Nat.le_refl _) ?_; intro w3 ho3 hg3; obtain ⟨HF3, hn3, hb3⟩ := made_row ho3 hg3; have hq3 := lies_below hq2 hb3 (Nat.le_refl _); clear ho3 hg3)
    | (refine wpList_copy_splice rfl (.tmp 26) (.tmp 27) 22 22 rfl 5 Yba.underlying22 hs5 _ _ len0 len0 len0 cap0 rfl rfl w2.heap.size 0 _ 5 HF3.out (xs.map (Value.int .u8)) hxm (lies_src hq3) (hlx _ hn3) (u8_one xs) w2.heap.size w3 (Below.refl _ _) (Nat.le_refl _) ?_; intro w4 HG4 hb4; obtain ⟨hc4, hx4⟩ := copied_row hxl hn3 HG4 hb3 hb4; have hp4 := lies_below hp2 hx4 (Nat.le_refl _); have hd4 := lies_below hc2 hx4 (Nat.le_refl _); clear HF3 HG4 hn3 hb3 hb4 hq2 hq3 hp2 hc2)
    | (at_make; refine wpList_make_full _ rfl (.tmp 30) (.tmp 30) 22 rfl w4.heap.size 5 i0 (.int .u8 0) 1 Yba.underlying22 hi hz0 hz1 _ _ _ _ len1 rfl rfl rfl rfl (by rw [hz2]; omega) (by unfold maxLen; omega) (Nat.le_refl _) ?_; intro w5 ho5 hg5; obtain ⟨HF5, hn5, hb5⟩ := made_row ho5 hg5; have hp5 := lies_below hp4 hb5 (Nat.le_refl _); clear ho5 hg5)
    | (refine wpList_copy_splice rfl (.tmp 32) (.tmp 33) 22 22 rfl 5 Yba.underlying22 hs5 _ _ len1 len1 len1 cap1 rfl rfl w4.heap.size 0 _ 5 HF5.out (zs.map (Value.int .u8)) hzm (lies_src hp5) (hlz _ hn5) (u8_one zs) w4.heap.size w5 (Below.refl _ _) (Nat.le_refl _) ?_; intro w6 HG6 hb6; obtain ⟨hc6, hx6⟩ := copied_row hzl hn5 HG6 hb5 hb6; have hp6 := lies_below hp4 hx6 (Nat.le_refl _); have hd6 := lies_below hd4 hx6 (Nat.le_refl _); have he6 := lies_below hc4 hx6 (Nat.le_refl _); clear HF5 HG6 hn5 hb5 hb6 hp4 hp5 hd4 hc4)
    | (at_make; refine wpList_make_own _ rfl _ _ 22 rfl w6.heap.size 5 i0 (.int .u8 0) 1 Yba.underlying22 hi hz0 hz1 _ _ _ (len0 + 4 * len1 + 2) rfl rfl (by omega) (by rw [hz2]; omega) (by unfold maxLen; omega) (Nat.le_refl _) ?_; intro w7 ho7 hg7; have hb7 : Below w6.heap.size w6 w7 := (Below.refl _ _).grown hg7 (Nat.le_refl _) (fun k h => by cases h); have he7 := lies_below he6 hb7 (Nat.le_refl _); have hs7 := hb7.size; clear hg7)
    | (at_builtin; refine wpList_append_own _ rfl (.tmp 43) (.tmp 44) 22 rfl w6.heap.size 5 i0 (.int .u8 0) 1 1 Yba.underlying22 hi hz0 hz1 hz2 rfl (by decide) _ _ _ rfl ho7 ⟨w2.heap.size, 0, none⟩ len0 len0 (xs.map (Value.int .u8)) rfl (by simp [hxl]) (lies_news he7) (u8_one xs) (by unfold maxLen; omega) (by omega) hs7 ?_; intro v8 w8 ho8 hg8 hd8; clear hd8; have hb8 : Below w6.heap.size w6 w8 := hb7.grown hg8 hs7 (fun k hk => (ho7.lt k hk).1); have hs8 := hb8.size; simp only [Nat.zero_add, List.nil_append] at ho8; clear ho7 hg8 hb7 he7 hs7)
    | (at_builtin; refine wpList_append_own _ rfl (.tmp 46) (.tmp 47) 22 rfl w6.heap.size 5 i0 (.int .u8 0) 1 1 Yba.underlying22 hi hz0 hz1 hz2 rfl (by decide) _ _ _ rfl (ho8.alloc _) ⟨w8.heap.size, 0, none⟩ 1 1 [.int .u8 34] rfl rfl (news_laid w8 _ 5) (by intro u hu; simp at hu; subst hu; rfl) (by unfold maxLen; omega) (by omega) (by simp; omega) ?_; intro v9 w9 ho9 hg9 hd9; clear hd9; have hb9 : Below w6.heap.size w6 w9 := hb8.trans (below_app ho8 hs8 hg9); have hs9 := hb9.size; clear ho8 hg9 hb8 hs8))
  have hw6 : Below w.heap.size w w6 := hx2.trans ((hx4.mono hx2.size).trans (hx6.mono (Nat.le_trans hx2.size hx4.size)))
  have hs6 := hw6.size
  clear hx2 hx4 hx6 hlx hlz hxm hzm
  go_loopw [8, 9] (fun u i wr => ∃ k : Nat, k ≤ len1 ∧ i = .int .i64 k ∧ wr.ownsRow w6.heap.size 5 1 u (len0 + 1 + (Pl.escs (zs.take k)).length) ((xs ++ [34] ++ Pl.escs (zs.take k)).map (Value.int .u8)) ∧ Below w6.heap.size w6 wr)
    (fun _ i _ => len1 - (intOf i).toNat)
  case atStart => exact ⟨0, Nat.zero_le _, rfl, by simpa [Pl.escs] using ho9, hb9⟩
  case round =>
    obtain ⟨k, hk, rfl, hown1, hbel⟩ := hrel
    have hsz := hbel.size
    have hel := Pl.escs_len (zs.take k)
    have htl : (zs.take k).length ≤ k := List.length_take_le _ _
    clear ho9 hb9 hs9
    by_cases hkl : k < len1
    · have hcell : wr.cell? ⟨w4.heap.size, k, none⟩ = some (.int .u8 (zs.getD k 0)) := lies_cell (lies_below hc6 hbel (Nat.le_refl _)) k hkl
      have hrk := hr k
      have hkz : k < zs.length := by omega
      have hst := esc_step (base := w6.heap.size) (n := len0 + 1) (xs := xs ++ [34]) hkz
      clear hr hc6 hp6 hd6 he6
      obtain ⟨c, hcc⟩ : ∃ c, c = zs.getD k 0 := ⟨_, rfl⟩
      rw [← hcc] at hcell hrk hst
      clear hcc
      go_wp2_with (go_at_call 4; refine (esc4 w6.heap.size _ _ _ c wr hown1 hsz (by omega) hrk.1 hrk.2).mono ?_; rintro e wx ⟨v', rfl, hown2, hbel2⟩)
      go_roundw
      case rel => exact ⟨k + 1, by omega, by go_num, hst _ _ hown2, hbel.trans hbel2⟩
      case measure => simp [intOf]; omega
    · have hk' : zs.take k = zs := List.take_of_length_le (by omega)
      rw [hk'] at hown1 hel
      clear hk' htl
      go_wp2_with (at_builtin; refine wpList_append_own _ rfl (.tmp 61) (.tmp 62) 22 rfl w6.heap.size 5 i0 (.int .u8 0) 1 1 Yba.underlying22 hi hz0 hz1 hz2 rfl (by decide) _ _ _ rfl (hown1.alloc _) ⟨wr.heap.size, 0, none⟩ 1 1 [.int .u8 34] rfl rfl (news_laid wr _ 5) (by intro u hu; simp at hu; subst hu; rfl) (by unfold maxLen; omega) (by omega) (by simp; omega) ?_; intro vw wa hoa hga hda; clear hda)
      have hba : Below w6.heap.size w6 wa := hbel.trans (below_app hown1 hsz hga)
      obtain ⟨gW, cW, rfl, hlW⟩ := owns_shape (zs := xs ++ quot zs) (by simpa [quot] using hoa) (by omega)
      have hda := lies_below hd6 hba (Nat.le_refl _)
      have hea := lies_below he6 hba (Nat.le_refl _)
      have hca := lies_below hc6 hba (Nat.le_refl _)
      have hpa := lies_below hp6 hba (Nat.le_refl _)
      clear hoa hga hown1 hbel hd6 he6 hc6 hp6 hl0 hl1
      refine (quoted5 len0 w.heap.size xs a1 len1 cap1 zs wa (by omega) (by omega) hxl (lies_cell hda) hpa hr).mono ?_
      rintro e wb ⟨vg, rfl, hob, hbb⟩
      obtain ⟨gG, cG, rfl, hlG⟩ := owns_shape hob (by rw [quot_len]; omega)
      have hlW' := lies_below hlW hbb (Nat.le_refl _)
      have hdb := lies_below hda hbb (Nat.le_refl _)
      have heb := lies_below hea hbb (Nat.le_refl _)
      have hcb := lies_below hca hbb (Nat.le_refl _)
      have hpb := lies_below hpa hbb (Nat.le_refl _)
      have hfin : Below w.heap.size w wb := (hw6.trans (hba.mono hs6)).trans (hbb.mono (Nat.le_trans hs6 hba.size))
      clear hob hlW hda hea hca hpa hr hba hbb hw6
      go_wp2_with fail
      refine (equal6 _ _ _ _ _ _ (xs ++ quot zs) wb hlG hlW').mono ?_
      rintro e wc ⟨rfl, hw⟩
      subst hw
      go_wp2_with fail
      refine (equal6 _ _ _ _ _ _ xs wc hdb heb).mono ?_
      rintro e wd ⟨rfl, hw⟩
      subst hw
      go_wp2_with fail
      refine (equal6 _ _ _ _ _ _ zs wd hpb hcb).mono ?_
      rintro e we ⟨rfl, hw⟩
      subst hw
      go_wp2
      go_ret
      exact ⟨rfl, hfin⟩

end Go.Proofs.Ybulkdzpc

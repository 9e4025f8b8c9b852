/-
  Seat b6310aF: the walk of the law.
-/
import Derived.Test.YbulkdzqsFmtPre
import Derived.Deep.CutBlock
import Derived.Deep.DeepCutAuto
namespace Go.Proofs.YbulkdzqsFmt
open Go.RowKit Go.Maps

set_option maxRecDepth 100000 in
set_option maxHeartbeats 40000000 in
theorem law (a0 : Option Addr) (n cap0 : Nat) (subj : ByteArray) (a2 : Option Addr) (m cap2 : Nat) (x : Nat) (r s p q : Nat → Nat) (w : World)
    (hn : n ≤ 1024) (hm : m ≤ 1024) (hx : x < 256) (hr : ∀ i, r i < 256) (hs : ∀ i, s i < 256) (hp : ∀ i, p i < 256) (hq : ∀ i, q i < 256) (hg : LiesG w a0 n r s p) (hb : LiesB w a2 m q) :
    Calls Ybaf.prog 3 #[.slice a0 n cap0, .string subj, .slice a2 m cap2, .int .u8 (x : Nat)] w fun e w' => e = .returned (.bool true) ∧ Below w.heap.size w w' := by
  have hn' : (n : Int) ≤ 1024 := by omega
  have hm' : (m : Int) ≤ 1024 := by omega
  have hmm := @run_makeMap Ybaf.prog
  go_enter Ybaf.func3, Ybaf.ntmps3
  go_upto_block 0 with fail
  go_cut [] (fun wx => ∃ (B : Nat → Nat) (V : Nat → Nat → Value), Gr wx w.heap.size w.heap.size B V (Pl.named (Ls r s p n)) (Pl.perms (Ls r s p n)) 1024 ∧ Below w.heap.size w wx)
  case first =>
    go_wp2_with fail
    go_loopw [47] (fun i wr => ∃ (k : Nat) (B : Nat → Nat) (V : Nat → Nat → Value), k ≤ n ∧ i = .int .i64 k ∧ Gr wr w.heap.size w.heap.size B V (Pl.named (Ls r s p k)) (Pl.perms (Ls r s p k)) k ∧ Below w.heap.size w wr) (fun i _ => n - (intOf i).toNat)
    case atStart => exact ⟨0, fun _ => 0, fun _ _ => .nilIface, Nat.zero_le _, rfl, Gr.start w _ _ (fun _ => rfl) (fun _ _ => rfl), (Below.refl _ w).alloc (Nat.le_refl _) _⟩
    case round =>
      obtain ⟨k, B, V, hk, rfl, hGr, hbel⟩ := hrel
      by_cases hkn : k < n
      · have hkn' : (k : Int) < (n : Int) := by omega
        have hg2 := hg.below hbel
        rcases hg2 with h0 | ⟨b, o, rfl, hc⟩
        · omega
        obtain ⟨c1, c2, c3⟩ := hc k hkn
        have hbl : b < wr.heap.size := World.block_lt_of_cell? wr _ c1
        have hr1 := hr k
        have hs1 := hs k
        have hp1 := hp k
        clear hc
        obtain ⟨j, hj⟩ : ∃ j, j = r k % 4 := ⟨_, rfl⟩
        have hj4 : j < 4 := by omega
        have hnmS : ∀ i, Pl.named (Ls r s p (k + 1)) i = (Pl.named (Ls r s p k) i || j == i) := fun i => by rw [Ls_succ, Pl.named_snoc, hj]
        have hnil29 := fun w p => run_eql_map_nil (P := Ybaf.prog) w 29 9 30 p Ybaf.underlying29
        obtain ⟨oG, hoG⟩ : ∃ oG, oG = Obj.cells #[Value.int .u8 (r k : Nat), Value.int .u8 (s k : Nat), Value.int .u8 (p k : Nat)] 27 := ⟨_, rfl⟩
        have hoc : ∀ i v, #[Value.int .u8 (r k : Nat), Value.int .u8 (s k : Nat), Value.int .u8 (p k : Nat)][i]? = some v → (wr.alloc oG).cell? ⟨wr.heap.size, i, none⟩ = some v := fun i v h => by rw [hoG, World.cell?_alloc_at _ _ _ _ rfl]; exact h
        have hGr1 : Gr (wr.alloc oG) w.heap.size w.heap.size B V (Pl.named (Ls r s p k)) (Pl.perms (Ls r s p k)) k := hGr.keep (fun b hb => Below.heap_alloc wr _ b hb)
        have hbel1 : Below w.heap.size w (wr.alloc oG) := hbel.alloc hbel.size _
        have hs1 : (wr.alloc oG).heap.size = wr.heap.size + 1 := by simp
        have HJ : Hid (j = r k % 4) := hj
        have hNr : w.heap.size < wr.heap.size := hGr.ltG
        rw [hoG] at hoc hGr1 hbel1 hs1
        clear hoG hj hg hGr hbel
        have hlA : ∀ l, (Pl.perms (Ls r s p k) j l).length ≤ k := fun l => hGr1.hlen j l
        by_cases h63 : p k % 64 = 63
        · have h63' : ((p k : Nat) : Int) % 64 = 63 := by omega
          have hpmE : Pl.perms (Ls r s p k) = Pl.perms (Ls r s p (k + 1)) := by
            funext a b; rw [Ls_succ, Pl.perms_miss _ _ a b (fun h => h.2.2 h63)]
          by_cases hnj : Pl.named (Ls r s p k) j = true
          · have hlk := hGr1.look hj4 hnj _ (fun _ _ => rfl)
            have hnmE := named_same hnmS hnj
            go_wp2_with (go_at_call 4; refine (role4j (r k) j HJ.out _).mono ?_; rintro e w1 ⟨rfl, hw1⟩; have hw1' := hw1.symm; subst hw1')
            go_roundw
            case rel => exact ⟨k + 1, B, V, by omega, by go_num, (hGr1.same hnmE hpmE).lift (by omega), hbel1⟩
            case measure => simp [intOf]; omega
          · have hnj' : Pl.named (Ls r s p k) j = false := by simpa using hnj
            have hlk := hGr1.look_none hj4 hnj' _ (fun _ _ => rfl)
            obtain ⟨W2, B2, hrun2, hGr2, _, _, hbel2, hblk2⟩ := name_step hGr1 hj4 hnj' hbel1 hs1 hnmS (by omega)
            have d2 : W2.cell? ⟨wr.heap.size, 2, none⟩ = some (.int .u8 (p k : Nat)) := (cell_block (hblk2 wr.heap.size (by rw [hs1]; omega) (by omega))).trans (hoc 2 _ rfl)
            go_wp2_with (go_at_call 4; refine (role4j (r k) j HJ.out _).mono ?_; rintro e w1 ⟨rfl, hw1⟩; have hw1' := hw1.symm; subst hw1')
            go_roundw
            case rel => exact ⟨k + 1, _, V, by omega, by go_num, hGr2.same rfl hpmE, hbel2⟩
            case measure => simp [intOf]; omega
        · have h63' : ¬ ((p k : Nat) : Int) % 64 = 63 := by omega
          obtain ⟨l, hl⟩ : ∃ l, l = s k % 4 := ⟨_, rfl⟩
          have hl4 : l < 4 := by omega
          have HL : Hid (l = s k % 4) := hl
          clear hl
          by_cases hnj : Pl.named (Ls r s p k) j = true
          focus
            have hlk := hGr1.look hj4 hnj _ (fun _ _ => rfl)
            have hnmE := named_same hnmS hnj
            have hGr2 := (hGr1.same hnmE rfl).lift (Nat.le_succ k)
            have hnj2 : Pl.named (Ls r s p (k + 1)) j = true := by rw [← hnmE]; exact hnj
            obtain ⟨s0, hI0, hs0⟩ := hGr1.hI j hj4 hnj
            have hbel2 := hbel1
            go_wp2_with (first
              | (go_at_call 4; refine (role4j (r k) j HJ.out _).mono ?_; rintro e w1 ⟨rfl, hw1⟩; have hw1' := hw1.symm; subst hw1')
              | (go_at_call 5; refine (res5j (s k) l HL.out _).mono ?_; rintro e w1 ⟨rfl, hw1⟩; have hw1' := hw1.symm; subst hw1'))
            clear hGr1 hbel1 hlk hnmE hnj hs1 hoc c1 c2 c3
            generalize wr.alloc (Obj.cells #[Value.int IntKind.u8 (r k : Nat), Value.int IntKind.u8 (s k : Nat), Value.int IntKind.u8 (p k : Nat)] 27) = W2 at *
            obtain ⟨B2, hB2⟩ : ∃ B2, B2 = B := ⟨_, rfl⟩
            rw [← hB2] at hGr2 hI0
            clear hB2
          rotate_left
          focus
            have hnj' : Pl.named (Ls r s p k) j = false := by simpa using hnj
            have hlk := hGr1.look_none hj4 hnj' _ (fun _ _ => rfl)
            obtain ⟨W2, B2, hrun2, hGr2, hnj2, hI2, hbel2, hblk2⟩ := name_step hGr1 hj4 hnj' hbel1 hs1 hnmS (by omega)
            have HN2 : Hid (Pl.named (Ls r s p (k + 1)) j = true) := hnj2
            clear hnj2
            have d1 : W2.cell? ⟨wr.heap.size, 1, none⟩ = some (.int .u8 (s k : Nat)) := (cell_block (hblk2 wr.heap.size (by rw [hs1]; omega) (by omega))).trans (hoc 1 _ rfl)
            have d2 : W2.cell? ⟨wr.heap.size, 2, none⟩ = some (.int .u8 (p k : Nat)) := (cell_block (hblk2 wr.heap.size (by rw [hs1]; omega) (by omega))).trans (hoc 2 _ rfl)
            go_wp2_with (first
              | (go_at_call 4; refine (role4j (r k) j HJ.out _).mono ?_; rintro e w1 ⟨rfl, hw1⟩; have hw1' := hw1.symm; subst hw1')
              | (go_at_call 5; refine (res5j (s k) l HL.out _).mono ?_; rintro e w1 ⟨rfl, hw1⟩; have hw1' := hw1.symm; subst hw1'))
            have hnj2 := HN2.out
            have hs0 : 0 ≤ k := Nat.zero_le _
            obtain ⟨s0, hs00⟩ : ∃ s0, s0 = 0 := ⟨_, rfl⟩
            rw [← hs00] at hI2 hs0
            have hI0 := hI2
            clear hs00 hI2 hGr1 hbel1 hlk hnj hs1 hoc c1 c2 c3 hrun2 hblk2 d1 d2 hnj'
          all_goals
            obtain ⟨pp, hpp⟩ : ∃ pp, pp = p k % 64 := ⟨_, rfl⟩
            have hpp' : ((p k : Nat) : Int) % 64 = (pp : Int) := by omega
            have hpp3 : pp < 63 := by omega
            have HPP : Hid (∀ a b, Pl.perms (Ls r s p (k + 1)) a b = if a = j ∧ b = l then Pl.perms (Ls r s p k) a b ++ [pp] else Pl.perms (Ls r s p k) a b) := fun a b => by
              rw [Ls_succ, ← HJ.out, ← HL.out, ← hpp]
              by_cases hab : a = j ∧ b = l
              · obtain ⟨rfl, rfl⟩ := hab; rw [Pl.perms_hit _ _ _ _ (by omega), if_pos ⟨rfl, rfl⟩]
              · rw [Pl.perms_miss _ _ a b (fun h => hab ⟨h.1.symm, h.2.1.symm⟩), if_neg hab]
            rw [hpp'] at h63' ⊢
            clear hpp hpp'
            obtain ⟨i0, hi, hz0, hz1, hz2⟩ := info_parts Ybaf.info31
            have hl1 := hlA l
            have hl1' : (Pl.perms (Ls r s p k) j l).length ≤ 1024 := by omega
            have hnews := news_laidF W2 [.int .i64 (pp : Nat)] 31
            have hown := hGr2.owns hj4 hl4
            have q1 := hGr2.look hj4 hnj2 W2.drew (fun _ _ => rfl)
            have q2 := hGr2.look hj4 hnj2 (W2.alloc (Obj.cells #[.int .i64 (pp : Nat)] 31)).drew (fun b hb => Below.heap_alloc W2 _ b hb)
            have q3 := hGr2.look2 hj4 hl4 hnj2 W2.drew (fun _ _ => rfl)
            have q4 := hGr2.look2 hj4 hl4 hnj2 (W2.alloc (Obj.cells #[.int .i64 (pp : Nat)] 31)).drew (fun b hb => Below.heap_alloc W2 _ b hb)
            have hszW := hbel2.size
            have hBlo := hGr2.lo.2 j hj4 hnj2
            go_region_law (refine step_append_own_at rfl (.tmp 80) (.tmp 82) 30 rfl w.heap.size 31 i0 (.int .i64 0) 1 8 Ybaf.underlying30 hi hz0 hz1 hz2 rfl (by decide) (rowAt V (Pl.perms (Ls r s p k)) j l) (Pl.perms (Ls r s p k) j l).length ((Pl.perms (Ls r s p k) j l).map mkM) (by simp [Act.eval]) (by exact hown.alloc _) ⟨W2.heap.size, 0, none⟩ 1 1 [.int .i64 (pp : Nat)] (by simp [Act.eval]) rfl (by exact hnews) (by intro u hu; simp at hu; subst hu; rfl) (by unfold maxLen; omega) (by omega) (by simp; omega) ?_; intro v' wa hoa hga hata; have hIa : RM wa (B2 j) (innerF (V j) (Pl.perms (Ls r s p k) j)) s0 := hI0.block ((hga.block _ (by show _ < (W2.alloc _).heap.size; have := hI0.lt; simp; omega) (hGr2.map_row hj4 hl4 hI0.isMap)).trans (Below.heap_alloc W2 _ _ hI0.lt)); obtain ⟨w2, s2, hrun2, hR2, hs2, ht2⟩ := hIa.put Ybaf.underlying29 (by unfold maxLen; omega) (res_size l) v'; obtain ⟨sG, hGm, _⟩ := hGr2.hG; have hGa := look25 (hGm.block ((hga.block _ (by show _ < (W2.alloc _).heap.size; have := hGm.lt; simp; omega) (hGr2.map_row hj4 hl4 hGm.isMap)).trans (Below.heap_alloc W2 _ _ hGm.lt))) hj4 hnj2)
            all_goals
              rw [resS_bytes] at hR2
              have hGr3 := hGr2.push (wd := (W2.alloc (Obj.cells #[.int .i64 (pp : Nat)] 31)).drew) hj4 hl4 hnj2 hpp3 (fun b hb => Below.heap_alloc W2 _ b hb) (by show _ ≤ (W2.alloc _).heap.size; simp) hga hata hoa hR2 (by omega) (Nat.le_refl _) (by omega) ht2 HPP.out
              have hbel3 : Below w.heap.size w w2 := (((hbel2.alloc hbel2.size _).drew).grown hga (by show _ ≤ (W2.alloc _).heap.size; simp; omega) (fun k hk => (hown.lt k hk).1)).grown ht2.grown (by have := hga.size; have h9 : W2.heap.size ≤ (W2.alloc (Obj.cells #[.int .i64 (pp : Nat)] 31)).drew.heap.size := (by show _ ≤ (W2.alloc _).heap.size; simp); omega) (fun k hk => by cases hk; exact hBlo)
              clear hGr2 hga hata hoa hR2 ht2 hrun2 hIa hGa q1 q2 q3 q4 hown hnews
              go_wp2
              go_roundw
              case rel => exact ⟨k + 1, B2, _, by omega, by go_num, hGr3, hbel3⟩
              case measure => simp [intOf]; omega
      · obtain rfl : k = n := by omega
        go_wp2_with fail
        go_meet
        case rel => exact ⟨B, V, hGr.lift hn, hbel⟩
  case rest =>
  obtain ⟨B, V, hG6, hbel⟩ := hcut
  have q23 : ∀ (w : World) (a : Option Addr) (n c : Nat), (binOp .neq 23 (.slice a n c) (.slice none 0 0)).run Ybaf.prog w = .ok (.bool (!a.isNone)) w := fun w a n c => run_neq_slice_nil_any w 23 5 a n c 0 0 Ybaf.underlying23
  go_upto_if 97 with (go_at_call 6; refine (new6 hG6).mono ?_; rintro e w1 ⟨X, bR, fR, vs, vw, Rs, nW, ev, ob, fo, rfl, hT, hF, hSp, hb1⟩)
  go_cut [17] (fun s17 wx => ∃ pr cr, s17 = .slice pr m cr ∧ RoleSl wx pr m cr (Xs q m) ∧ Below w1.heap.size w1 wx)
  case first =>
    have hbw1 : Below w.heap.size w w1 := hbel.trans (hb1.mono hbel.size)
    clear q23 hT hSp hF hb1 hG6 hg
    cases a2 with
    | none =>
      obtain rfl : m = 0 := by rcases hb with h | ⟨b, o, h, _⟩; exact h; cases h
      go_wp2_with fail
      go_meet
      case rel => exact ⟨none, 0, rfl, ⟨rfl, .inl ⟨rfl, rfl, rfl⟩⟩, Below.refl _ _⟩
    | some ad =>
      obtain ⟨i0, hi, hz0, hz1, hz2⟩ := info_parts Ybaf.info9
      go_wp2_with (at_make; refine wpList_make_full _ rfl (.tmp 99) (.tmp 99) 37 rfl w1.heap.size 9 i0 (.string ByteArray.empty) 1 Ybaf.underlying37 hi hz0 hz1 _ _ _ _ m rfl rfl rfl rfl (by rw [hz2]; omega) (by unfold maxLen; omega) (Nat.le_refl _) ?_; intro w2 ho2 hg2)
      obtain ⟨cur0, hh0, hsz0⟩ := made_block ho2
      have hbM : Below w1.heap.size w1 w2 := (Below.refl _ w1).grown hg2 (Nat.le_refl _) (fun k h => by cases h)
      clear ho2 hg2
      obtain ⟨M, hM⟩ : ∃ M, M = w1.heap.size := ⟨_, rfl⟩
      have HM : Hid (M = w1.heap.size) := hM
      rw [← hM] at hh0 hbM ⊢
      have hwM : w.heap.size ≤ M := by have := hbw1.size; omega
      clear hM
      go_loopw [103] (fun i wr => ∃ (k : Nat) (cur : Array Value), k ≤ m ∧ i = .int .i64 k ∧ wr.heap[M]? = some (.cells cur 9 (0, 0)) ∧ cur.size = m ∧ (∀ i, i < k → cur[i]? = some (.string (roleS (q i % 6)))) ∧ Below M w1 wr) (fun i _ => m - (intOf i).toNat)
      case atStart => exact ⟨0, cur0, Nat.zero_le _, rfl, hh0, hsz0, fun i hi => by omega, hbM⟩
      case round =>
        obtain ⟨k, cur, hk, rfl, hh, hcs, hci, hbe⟩ := hrel
        by_cases hkm : k < m
        · have hkm' : (k : Int) < (m : Int) := by omega
          rcases hb with h0 | ⟨b, o, hbo, hbc⟩
          · omega
          obtain rfl := Option.some.inj hbo
          have hbl : b < w.heap.size := World.block_lt_of_cell? w _ (hbc k hkm)
          have c1 : wr.cell? ⟨b, o + k, none⟩ = some (.int .u8 (q k : Nat)) := ((hbw1.trans (hbe.mono hwM)).cell (by exact hbl)).trans (hbc k hkm)
          have ck : wr.cell? ⟨M, k, none⟩ = some (cur[k]'(by omega)) := by simp [World.cell?, hh, hcs, hkm]
          have fk : wr.frozen? ⟨M, k, none⟩ = false := by simp [World.frozen?, hh]
          obtain ⟨cur', hh', hcs', hci'⟩ := set_row (k := k) (v := .string (roleS (q k % 6))) hh
          have hbe' : Below M w1 (wr.setCell ⟨M, k, none⟩ (.string (roleS (q k % 6)))) := hbe.setCell (Nat.le_refl _) _
          have hqk := hq k
          clear hbc hbo hh hbe hh0 hbM
          go_wp2_with (go_at_call 4; refine (role4n (q k) hqk _).mono ?_; rintro e w3 ⟨rfl, hw3⟩; have hw3' := hw3.symm; subst hw3')
          go_roundw
          case rel => exact ⟨k + 1, cur', by omega, by go_num, hh', by omega, fun i hi => by rw [hci' i]; by_cases hik : i = k; subst hik; simp; omega; rw [if_neg (fun e => hik e.1)]; exact hci i (by omega), hbe'⟩
          case measure => simp [intOf]; omega
        · obtain rfl : k = m := by omega
          have hMl : M < wr.heap.size := (Array.getElem?_eq_some_iff.1 hh).1
          go_wp2_with fail
          go_meet
          case rel => exact ⟨_, _, rfl, ⟨Xs_len q k, .inr ⟨M, rfl, hMl, fun i hi => by rw [Xs_at q hi]; simp only [World.cell?, hh]; exact hci i hi⟩⟩, HM.out ▸ hbe⟩
  case rest =>
  obtain ⟨pr, cr, rfl, hR2, hb2⟩ := hcut
  obtain ⟨W2, hW2⟩ : ∃ W, W = wc := ⟨_, rfl⟩
  subst hW2
  have hT2 := hT.below hb2 (Nat.le_refl _)
  have hbW2 : Below w.heap.size w W2 := (hbel.trans (hb1.mono hbel.size)).trans (hb2.mono (by have := hbel.size; have := hb1.size; omega))
  have hm5 : m ≤ 5000 := by omega
  have hRs5 : Rs.length ≤ 5000 := by have := hF.small.1; omega
  obtain ⟨g, cs, hvs, _⟩ := owns_strs hT.hs hF.pos
  subst hvs
  obtain ⟨pw, cw, hvw⟩ := owns_any hT.hw
  subst hvw
  obtain ⟨sR, hRm⟩ := hT2.hR
  clear hT hb1 hb2 hbel hG6 q23 hb hmm
  go_upto_region 32 with (first
    | (go_at_call 7; refine (clone7R hR2 hm5).mono ?_; rintro e w3 ⟨p3, c3, rfl, hL3, hb3⟩; have hT3 := hT2.below hb3 (Nat.le_refl _); have hR3 := hR2.below hb3; obtain ⟨x0, x1, x2, hXlt⟩ := hT3.cells; obtain ⟨g', cs', hv', hcs⟩ := owns_strs hT3.hs hF.pos; cases hv')
    | (go_at_call 7; refine (clone7 g Rs.length cs Rs _ hRs5 rfl hcs).mono ?_; rintro e w4 ⟨v4, rfl, ho4, hb4⟩; obtain ⟨p4, c4, hv4⟩ := owns_any ho4; have hL4 := LiesS.owned ho4 hv4; subst hv4; have hT4 := hT3.below hb4 (Nat.le_refl _); have hR4 := hR3.below hb4; have hL3' := hL3.below hb4; obtain ⟨y0, y1, y2, hYlt⟩ := hT4.cells; have hRm4 := (hRm.block (hb3.block _ hRm.lt)).block (hb4.block _ (by have := hRm.lt; have := hb3.size; omega)); obtain ⟨D4, hown4, hsD4⟩ := hRm4.len; have HD4 : Hid (Maps.size D4 = sR) := hsD4; clear hsD4)
    | (go_at_call 5; refine (res5n x hx _).mono ?_; rintro e w5 ⟨rfl, hw5⟩; have hw5' := hw5.symm; subst hw5')
    | (at_len; refine wpList_len_own _ rfl _ 39 rfl 9 65 Ybaf.underlying39 _ bR sR D4 rfl hown4 ?_; rw [HD4.out]))
  obtain ⟨IDO, hI⟩ : ∃ o, o = Obj.cells #[Value.string subj, Value.string { data := #[] }, Value.string { data := #[] }, Value.string { data := #[] }, Value.slice pr m cr, Value.string { data := #[] }, Value.int IntKind.u64 0, Value.int IntKind.i64 0, Value.pointer none] 48 := ⟨_, rfl⟩
  rw [← hI]
  have hWI := (heap_alloc_new w4 IDO).trans (congrArg some hI)
  have hbI := (Below.refl w4.heap.size w4).alloc (Nat.le_refl _) IDO
  have hTI := hT4.below hbI (Nat.le_refl _)
  have hRI := hR4.below hbI
  have hLI := hL3'.below hbI
  have hLR := hL4.below hbI
  have hRmI := hRm4.block (hbI.block _ hRm4.lt)
  have hbW : Below w.heap.size w (w4.alloc IDO) := ((hbW2.trans (hb3.mono hbW2.size)).trans (hb4.mono (by have := hbW2.size; have := hb3.size; omega))).alloc (by have := hbW2.size; have := hb3.size; have := hb4.size; omega) _
  clear hI x0 x1 x2 y0 y1 y2 hown4 HD4 hT4 hT3 hT2 hb3 hb4 hcs hL3 hL3' hL4 hR2 hR3 hR4 hRm hRm4 hbI ho4 hbW2 hXlt hYlt
  obtain ⟨M, hM⟩ : ∃ M, M = w4.heap.size := ⟨_, rfl⟩
  rw [← hM] at hWI ⊢
  clear hM
  generalize w4.alloc IDO = WI at *
  obtain ⟨res, hres⟩ : ∃ res, res = resS (x % 5) := ⟨_, rfl⟩
  have hrz : res.size ≤ maxLen := by rw [hres]; exact res_size _
  rw [← hres]
  clear hres
  have hMlt : M < WI.heap.size := (Array.getElem?_eq_some_iff.1 hWI).1
  obtain ⟨i0, i1, i2, i3, i4, i5, i6, i7, i8⟩ := id_cells hWI
  go_cut [26, 16] (fun s26 s16 wx => s26 = .int .i64 (unionOf (said fR Rs ev fo) res.data.toList (Xs q m) : Nat) ∧ s16 = .nilIface ∧ Below WI.heap.size WI wx)
  case first =>
    have hTd := hTI.below ((Below.refl WI.heap.size WI).drew) (Nat.le_refl _)
    have hRd := hRI.below ((Below.refl WI.heap.size WI).drew)
    go_region_with (first
      | (go_at_call 9; refine (bg9 _).mono ?_; rintro e w5 ⟨⟨v9, rfl⟩, hw5⟩; have hw5' := hw5.symm; subst hw5')
      | (go_at_call 8; refine (perms8R _ _ _ _ _ _ _ _ _ res hTd hF hrz hm5 hRd (Xs_size q m)).mono ?_; rintro e w6 ⟨rfl, hb6⟩))
    all_goals
      go_wp2_with fail
      go_meet
      case rel => exact ⟨rfl, rfl, (Below.refl WI.heap.size WI).drew.trans hb6⟩
  case rest =>
  obtain ⟨rfl, rfl, hb6⟩ := hcut
  obtain ⟨W6, hW6⟩ : ∃ W, W = wc := ⟨_, rfl⟩
  subst hW6
  have hT6 := hTI.below hb6 (Nat.le_refl _)
  have hR6 := hRI.below hb6
  have hL6 := hLI.below hb6
  have hLR6 := hLR.below hb6
  have hRm6 := hRmI.block (hb6.block _ hRmI.lt)
  have hWI6 := (hb6.block _ hMlt).trans hWI
  have hbW6 : Below w.heap.size w W6 := hbW.trans (hb6.mono hbW.size)
  have hU : unionOf (said fR Rs ev fo) res.data.toList (Xs q m) = unionOf (Pl.Sp (Pl.perms (Ls r s p n))) res.data.toList (Xs q m) := by
    have : said fR Rs ev fo = Pl.Sp (Pl.perms (Ls r s p n)) := by funext a b; exact hSp a b
    rw [this]
  rw [hU]
  have hUl : ∀ k, unionOf (Pl.Sp (Pl.perms (Ls r s p n))) res.data.toList (Xs q k) < 2 ^ 63 := fun k => union_lt (fun a b => by rw [← hSp]; exact said_lt hF a b) _ _
  have hg6 := hg.below hbW6
  clear hb6 hbW hTI hRI hLI hLR hRmI hWI hMlt i0 i1 i2 i3 i4 i5 i6 i7 i8 hg hU
  generalize hUU : (fun k => unionOf (Pl.Sp (Pl.perms (Ls r s p n))) res.data.toList (Xs q k)) = U
  have hUm : unionOf (Pl.Sp (Pl.perms (Ls r s p n))) res.data.toList (Xs q m) = U m := by rw [← hUU]
  have hU0 : U 0 = 0 := by rw [← hUU]; rfl
  have HUs : Hid (∀ k, U (k + 1) = U k ||| Pl.Sp (Pl.perms (Ls r s p n)) (Pl.roleL (q k % 6)) res.data.toList) := fun k => by rw [← hUU]; simp only [Xs_succ, union_snoc, roleS_bytes]
  have hUl' : ∀ k, U k < 2 ^ 63 := fun k => by rw [← hUU]; exact hUl k
  have HUM : Hid (unionOf (said fR Rs ev fo) res.data.toList (Xs q m) = U m) := by
    have : said fR Rs ev fo = Pl.Sp (Pl.perms (Ls r s p n)) := by funext a b; exact hSp a b
    rw [this]; exact hUm
  rw [hUm]
  clear hUU hUm hUl
  have Sl : ∀ l a b, Pl.Sp (Pl.perms (Ls r s p l)) a b < 2 ^ 63 := fun l a b => Pl.Sp_lt (fun j k => Pl.Mk_lt _ (Pl.perms_lt _ (Ls_lt r s p l) j k)) a b
  have hMl : M < W6.heap.size := (Array.getElem?_eq_some_iff.1 hWI6).1
  go_upto_block 4 with fail
  go_cut [27] (fun s27 wx => s27 = .int .i64 (U m : Nat) ∧ Below W6.heap.size W6 wx)
  case first =>
    clear hT6 hL6 hLR6 hRm6 hWI6 hbW6
    go_wp2_with fail
    go_loopw [27, 148] (fun v i wr => ∃ k : Nat, k ≤ m ∧ i = .int .i64 k ∧ v = .int .i64 (U k : Nat) ∧ Below W6.heap.size W6 wr) (fun _ i _ => m - (intOf i).toNat)
    case atStart => exact ⟨0, Nat.zero_le _, rfl, by rw [hU0]; rfl, Below.refl _ _⟩
    case round =>
      obtain ⟨k, hk, rfl, rfl, hbe⟩ := hrel
      by_cases hkm : k < m
      · have hkm' : (k : Int) < (m : Int) := by omega
        obtain ⟨_, hR⟩ := hR6
        rcases hR with ⟨_, h0, _⟩ | ⟨MR, rfl, hMR, hMc⟩
        · omega
        have c1 : wr.cell? ⟨MR, k, none⟩ = some (.string (roleS (q k % 6))) := by
          rw [← Xs_at q hkm]; exact (hbe.cell (by exact hMR)).trans (hMc k hkm)
        clear hMc
        go_wp2_with fail
        have hUk := hUl' k
        go_loopw [27, 154] (fun v i wi => ∃ l : Nat, l ≤ n ∧ i = .int .i64 l ∧ v = .int .i64 ((U k ||| Pl.Sp (Pl.perms (Ls r s p l)) (Pl.roleL (q k % 6)) res.data.toList : Nat) : Int) ∧ Below W6.heap.size W6 wi) (fun _ i _ => n - (intOf i).toNat)
        case atStart => exact ⟨0, Nat.zero_le _, rfl, by rw [show Pl.Sp (Pl.perms (Ls r s p 0)) (Pl.roleL (q k % 6)) res.data.toList = 0 from Sp_nil _ _]; simp, hbe⟩
        case round =>
          obtain ⟨l, hl, rfl, rfl, hbi⟩ := hrel
          by_cases hln : l < n
          · have hln' : (l : Int) < (n : Int) := by omega
            rcases hg6 with h0 | ⟨b, o, rfl, hc⟩
            · omega
            obtain ⟨d1, d2, d3⟩ := hc l hln
            have hbl : b < W6.heap.size := World.block_lt_of_cell? W6 _ d1
            have c2 : wr.cell? ⟨b, o + l * 3, none⟩ = some (.int .u8 (r l : Nat)) := (hbi.cell (by exact hbl)).trans d1
            have c3 : wr.cell? ⟨b, o + l * 3 + 1, none⟩ = some (.int .u8 (s l : Nat)) := (hbi.cell (by exact hbl)).trans d2
            have c4 : wr.cell? ⟨b, o + l * 3 + 2, none⟩ = some (.int .u8 (p l : Nat)) := (hbi.cell (by exact hbl)).trans d3
            have hr1 := hr l
            have hs1 := hs l
            have hp1 := hp l
            obtain ⟨j, hj⟩ : ∃ j, j = r l % 4 := ⟨_, rfl⟩
            have hj4 : j < 4 := by omega
            have HJ : Hid (j = r l % 4) := hj
            obtain ⟨z, hz⟩ : ∃ z, z = s l % 4 := ⟨_, rfl⟩
            have hz4 : z < 4 := by omega
            have HZ : Hid (z = s l % 4) := hz
            have HS : Hid (Pl.Sp (Pl.perms (Ls r s p (l + 1))) (Pl.roleL (q k % 6)) res.data.toList = Pl.Sp (Pl.perms (Ls r s p l)) (Pl.roleL (q k % 6)) res.data.toList ||| (if (roleS j).toList = (roleS (q k % 6)).toList ∧ p l % 64 ≠ 63 ∧ ((resS z).toList = res.toList ∨ (resS z).toList = [42]) then 2 ^ (p l % 64) else 0)) := by
              rw [Ls_succ, ← hj, ← hz, Pl.Sp_snoc _ _ _ _ hj4 hz4]
              simp only [ByteArray.toList_eq, roleS_bytes, resS_bytes]
              rfl
            have hSl := Sl l (Pl.roleL (q k % 6)) res.data.toList
            have hbn := hbi.alloc hbi.size (Obj.cells #[Value.int .u8 (r l : Nat), Value.int .u8 (s l : Nat), Value.int .u8 (p l : Nat)] 27)
            clear hj hz hc d1 d2 d3 hbi
            go_wp2_with (first
              | (go_at_call 4; refine (role4j (r l) j HJ.out _).mono ?_; rintro e w7 ⟨rfl, hw7⟩; have hw7' := hw7.symm; subst hw7')
              | (go_at_call 5; refine (res5j (s l) z HZ.out _).mono ?_; rintro e w7 ⟨rfl, hw7⟩; have hw7' := hw7.symm; subst hw7'))
            · have h1 := ‹(!(roleS j).toList == (roleS (q k % 6)).toList) = true›
              go_roundw
              case rel => exact ⟨l + 1, by omega, by go_num, by rw [HS.out, if_neg (fun h => by simp [h.1] at h1)]; simp, hbn⟩
              case measure => simp [intOf]; omega
            · have h1 := ‹(((p l : Nat) : Int) % 64 == 63) = true›
              have h2 : p l % 64 = 63 := by simp at h1; omega
              go_roundw
              case rel => exact ⟨l + 1, by omega, by go_num, by rw [HS.out, if_neg (fun h => h.2.1 h2)]; simp, hbn⟩
              case measure => simp [intOf]; omega
            · have h1 := ‹(!(roleS j).toList == (roleS (q k % 6)).toList) = false›
              have h2 := ‹(((p l : Nat) : Int) % 64 == 63) = false›
              have h3 := ‹(resS z).toList = res.toList›
              have h1' : (roleS j).toList = (roleS (q k % 6)).toList := by simpa using h1
              have h2' : p l % 64 ≠ 63 := by simp at h2; omega
              go_roundw
              case rel => exact ⟨l + 1, by omega, by go_num, by rw [or_shl _ _ (Nat.or_lt_two_pow hUk hSl) (by omega), HS.out, if_pos ⟨h1', h2', .inl h3⟩, Nat.or_assoc], hbn⟩
              case measure => simp [intOf]; omega
            · have h1 := ‹(!(roleS j).toList == (roleS (q k % 6)).toList) = false›
              have h2 := ‹(((p l : Nat) : Int) % 64 == 63) = false›
              have h3 := ‹((resS z).toList == res.toList) = true ∨ ((resS z).toList == [42]) = true›
              have h1' : (roleS j).toList = (roleS (q k % 6)).toList := by simpa using h1
              have h2' : p l % 64 ≠ 63 := by simp at h2; omega
              have h3' : (resS z).toList = res.toList ∨ (resS z).toList = [42] := by simpa using h3
              go_roundw
              case rel => exact ⟨l + 1, by omega, by go_num, by rw [or_shl _ _ (Nat.or_lt_two_pow hUk hSl) (by omega), HS.out, if_pos ⟨h1', h2', h3'⟩, Nat.or_assoc], hbn⟩
              case measure => simp [intOf]; omega
            · have h3 := ‹((resS z).toList == res.toList) = false ∧ ((resS z).toList == [42]) = false›
              go_roundw
              case rel => exact ⟨l + 1, by omega, by go_num, by rw [HS.out, if_neg (fun h => by rcases h.2.2 with e | e <;> simp [e] at h3)]; simp, hbn⟩
              case measure => simp [intOf]; omega
          · obtain rfl : l = n := by omega
            go_wp2_with fail
            go_roundw
            case rel => exact ⟨k + 1, by omega, by go_num, by rw [HUs.out k], hbi⟩
            case measure => simp [intOf]; omega
      · obtain rfl : k = m := by omega
        go_wp2_with fail
        go_meet
        case rel => exact ⟨rfl, hbe⟩
  case rest =>
  obtain ⟨rfl, hb8⟩ := hcut
  obtain ⟨W8, hW8⟩ : ∃ W, W = wc := ⟨_, rfl⟩
  subst hW8
  have hT8 := hT6.below hb8 (Nat.le_refl _)
  have hR8 := hR6.below hb8
  have hL8 := hL6.below hb8
  have hLR8 := hLR6.below hb8
  have hRm8 := hRm6.block (hb8.block _ hRm6.lt)
  obtain ⟨j0, j1, j2, j3, j4, j5, j6, j7, j8⟩ := id_cells ((hb8.block _ hMl).trans hWI6)
  have hbW8 : Below w.heap.size w W8 := hbW6.trans (hb8.mono hbW6.size)
  obtain ⟨z0, z1, z2, hZlt⟩ := hT8.cells
  obtain ⟨D8, hown8, hsD8⟩ := hRm8.len
  have HD8 : Hid (Maps.size D8 = sR) := hsD8
  have hLr : LiesS W8 (some ⟨g, 0, none⟩) Rs.length Rs := LiesS.owned hT8.hs rfl
  clear hsD8 hT6 hR6 hL6 hLR6 hRm6 hWI6 hbW6 hb8 hMl hg6 HUs
  have hlen8 : ∀ k, (Builtin.len_ #[39] 3 #[.map (some bR)]).run Ybaf.prog (W8.drewN k) = .ok (.int .i64 (sR : Nat)) (W8.drewN k) := fun k => by
    have h9 := (own_heap (w' := W8.drewN k) hown8 rfl).len Ybaf.underlying39 3
    rw [HD8.out] at h9
    exact h9
  clear hown8 HD8
  go_upto_region 54 with (go_at_call 10; refine (equal10 pr p3 cr c3 m (Xs q m) _ hm5 ?_ ?_).mono ?_; exact hR8.lies.heap rfl; exact hL8.heap rfl; rintro e w7 ⟨rfl, m7, hw7⟩; subst hw7)
  go_upto_region 56 with (go_at_call 10; refine (equal10 (some ⟨g, 0, none⟩) p4 cs c4 Rs.length Rs _ hRs5 ?_ ?_).mono ?_; exact hLr.heap rfl; exact hLR8.heap rfl; rintro e w7 ⟨rfl, m7, hw7⟩; subst hw7)
  have hB9 : ∀ k, Below W8.heap.size W8 (W8.drewN k).drew := fun _ => ⟨rfl, rfl, rfl, Nat.le_refl _, fun _ _ => rfl⟩
  have hT9 := fun k => hT8.below (hB9 k) (Nat.le_refl _)
  have hR9 := fun k => hR8.below (hB9 k)
  go_region_with (first
    | (go_at_call 9; refine (bg9 _).mono ?_; rintro e w5 ⟨⟨v9, rfl⟩, hw5⟩; have hw5' := hw5.symm; subst hw5')
    | (go_at_call 8; refine (perms8R _ _ _ _ _ _ _ _ _ res (hT9 _) hF hrz hm5 (hR9 _) (Xs_size q m)).mono ?_; rintro e w9 ⟨rfl, hb9⟩; rw [HUM.out]))
  all_goals
    have hb9' := (hB9 _).trans hb9
    go_wp2
    go_ret
    exact ⟨rfl, hbW8.trans (hb9'.mono hbW8.size)⟩

end Go.Proofs.YbulkdzqsFmt

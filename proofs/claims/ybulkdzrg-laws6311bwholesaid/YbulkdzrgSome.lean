/-
  Seat b6311a: the law where 'ports' is not nil.
-/
import Derived.Test.YbulkdzrgNil
import Derived.Deep.CutBlock
import Derived.Deep.DeepCutAuto
import Derived.Deep.RegionWith
namespace Go.Proofs.Ybulkdzrg
open Go.RowKit Go.MuLone

theorem alloc_le {w : World} {o : Obj} {g : Nat} (h : (w.alloc o).heap.size ≤ g) : w.heap.size < g := by simp at h; omega
theorem box3 (w : World) (cs : Array Value) : (w.alloc (.cells cs 38)).cell? ⟨w.heap.size, 3, none⟩ = cs[3]? := by simp only [World.cell?]; rw [heap_alloc_new]; rfl
theorem made_block {w : World} {base g n c : Nat} {xs : List Value} (h : w.ownsRow base 34 4 (.slice (some ⟨g, 0, none⟩) n c) n xs) : ∃ cur, w.heap[g]? = some (.cells cur 34 (0, 0)) ∧ cur.size = c * 4 := by
  obtain ⟨_, h2⟩ := h
  rcases h2 with ⟨h2, _⟩ | ⟨g', cap, cur, hv, _, hh, _, _, hcs, _⟩
  · cases h2
  · cases hv; exact ⟨cur, hh, hcs⟩

theorem row4 {w : World} {M k n : Nat} {cur : Array Value} (h : w.heap[M]? = some (.cells cur 34 (0, 0))) (hs : n * 4 ≤ cur.size) (hk : k < n) : ∃ v0 v1 v2 v3, w.cell? ⟨M, k * 4, none⟩ = some v0 ∧ w.cell? ⟨M, k * 4 + 1, none⟩ = some v1 ∧ w.cell? ⟨M, k * 4 + 2, none⟩ = some v2 ∧ w.cell? ⟨M, k * 4 + 3, none⟩ = some v3 ∧ (∀ j, w.frozen? ⟨M, j, none⟩ = false) := by
  refine ⟨cur[k * 4]'(by omega), cur[k * 4 + 1]'(by omega), cur[k * 4 + 2]'(by omega), cur[k * 4 + 3]'(by omega), ?_, ?_, ?_, ?_, fun j => by simp [World.frozen?, h]⟩ <;> simp only [World.cell?, h] <;> exact Array.getElem?_eq_getElem _
theorem set_row {w : World} {M k : Nat} {cur : Array Value} (v : Value) (h : w.heap[M]? = some (.cells cur 34 (0, 0))) :
    ∃ cur', (w.setCell ⟨M, k, none⟩ v).heap[M]? = some (.cells cur' 34 (0, 0)) ∧ cur'.size = cur.size ∧ (k < cur.size → cur'[k]? = some v) ∧ ∀ i, i ≠ k → cur'[i]? = cur[i]? := by
  refine ⟨cur.setIfInBounds k v, by simp [World.setCell, Array.getElem?_modify, h], by simp, fun hk => by simp [hk], fun i hi => by rw [Array.getElem?_setIfInBounds_ne (by omega)]⟩
/-- The four cells of element k are written. -/
theorem set4 {w : World} {M k n : Nat} {cur : Array Value} (h : w.heap[M]? = some (.cells cur 34 (0, 0))) (hs : n * 4 ≤ cur.size) (hk : k < n) (p : Int) :
    ∃ cur', ((((w.setCell ⟨M, k * 4, none⟩ (.int .u64 0)).setCell ⟨M, k * 4 + 1, none⟩ (.int .u64 0)).setCell ⟨M, k * 4 + 2, none⟩ (.pointer none)).setCell ⟨M, k * 4 + 3, none⟩ (.int .u16 p)).heap[M]? = some (.cells cur' 34 (0, 0)) ∧ cur'.size = cur.size ∧
      (∀ j, j < k * 4 ∨ k * 4 + 4 ≤ j → cur'[j]? = cur[j]?) ∧ cur'[k * 4]? = some (.int .u64 0) ∧ cur'[k * 4 + 1]? = some (.int .u64 0) ∧ cur'[k * 4 + 2]? = some (.pointer none) ∧ cur'[k * 4 + 3]? = some (.int .u16 p) := by
  obtain ⟨a, ha, sa, ea, oa⟩ := set_row (k := k * 4) (.int .u64 0) h
  obtain ⟨b, hb, sb, eb, ob⟩ := set_row (k := k * 4 + 1) (.int .u64 0) ha
  obtain ⟨c, hc, sc, ec, oc⟩ := set_row (k := k * 4 + 2) (.pointer none) hb
  obtain ⟨d, hd, sd, ed, od⟩ := set_row (k := k * 4 + 3) (.int .u16 p) hc
  refine ⟨d, hd, by omega, fun j hj => ?_, ?_, ?_, ?_, ed (by omega)⟩
  · rw [od j (by omega), oc j (by omega), ob j (by omega), oa j (by omega)]
  · rw [od _ (by omega), oc _ (by omega), ob _ (by omega)]; exact ea (by omega)
  · rw [od _ (by omega), oc _ (by omega)]; exact eb (by omega)
  · rw [od _ (by omega)]; exact ec (by omega)

set_option maxRecDepth 100000 in
set_option maxHeartbeats 8000000 in
theorem lawSome (ad : Addr) (n cap0 : Nat) (q : Nat → Int) (key high ser : Int) (w : World) (hn : n ≤ 1048576)
    (hb : n = 0 ∨ ∃ b o, ad = ⟨b, o, none⟩ ∧ ∀ i, i < n → w.cell? ⟨b, o + i, none⟩ = some (.int .u16 (q i))) :
    Calls Yba.prog 3 #[.slice (some ad) n cap0, .int .u64 key, .int .u64 high, .int .u64 ser] w fun e w' => e = .returned (.bool true) ∧ Below w.heap.size w w' := by
  have hn' : (n : Int) ≤ 1048576 := by omega
  have q24 : ∀ (w : World) (a : Option Addr) (n c n' c' : Nat), (binOp .eql 24 (.slice a n c) (.slice none n' c')).run Yba.prog w = .ok (.bool a.isNone) w := fun w a n c n' c' => Lib.run_eql_slice_nil w _ _ a n c n' c' Yba.underlying24
  have q22 : ∀ (w : World) (a : Option Addr) (n c n' c' : Nat), (binOp .eql 22 (.slice a n c) (.slice none n' c')).run Yba.prog w = .ok (.bool a.isNone) w := fun w a n c n' c' => Lib.run_eql_slice_nil w _ _ a n c n' c' Yba.underlying22
  have p22 : ∀ (w : World) (a : Option Addr) (n c : Nat), (binOp .neq 22 (.slice a n c) (.slice none 0 0)).run Yba.prog w = .ok (.bool (!a.isNone)) w := fun w a n c => run_neq_slice_nil_any w 22 32 a n c 0 0 Yba.underlying22
  have hneq : ∀ w : World, (binOp .neq 31 (.agg #[.int .u64 0, .int .u64 0, .pointer none]) (.agg #[.int .u64 0, .int .u64 0, .pointer none])).run Yba.prog w = .ok (.bool false) w := fun w => by kernel_rfl
  obtain ⟨i0, hi, hz0, hz1, hz2⟩ := info_parts Yba.info34
  go_enter Yba.func3, Yba.ntmps3
  go_upto_if 21 with fail
  go_cut [9] (fun s9 wx => ∃ M c, s9 = .slice (some ⟨M, 0, none⟩) n c ∧ w.heap.size ≤ M ∧ LiesP wx M n q ∧ Below w.heap.size w wx)
  case first =>
    go_wp2_with (at_make; refine wpList_make_full _ rfl (.tmp 23) (.tmp 23) 24 rfl w.heap.size 34 i0 (apV 0) 4 Yba.underlying24 hi hz0 hz1 _ _ _ _ n rfl rfl rfl rfl (by rw [hz2]; omega) (by unfold maxLen; omega) (Nat.le_refl _) ?_; intro w2 ho2 hg2)
    obtain ⟨cur0, hh0, hsz0⟩ := made_block ho2
    have hbM : Below w.heap.size w w2 := (Below.refl _ w).grown hg2 (Nat.le_refl _) (fun k h => by cases h)
    clear ho2 hg2 hi hz0 hz1 hz2
    obtain ⟨M, hM⟩ : ∃ M, M = w.heap.size := ⟨_, rfl⟩
    have HM : Hid (M = w.heap.size) := hM
    rw [← hM] at hh0 hbM ⊢
    clear hM
    go_loopw [10] (fun i wr => ∃ (k : Nat) (cur : Array Value), k ≤ n ∧ i = .int .i64 k ∧ wr.heap[M]? = some (.cells cur 34 (0, 0)) ∧ cur.size = n * 4 ∧ (∀ j, j < k * 4 → cur[j]? = some (cellOf q j)) ∧ Below M w wr) (fun i _ => n - (intOf i).toNat)
    case atStart => exact ⟨0, cur0, Nat.zero_le _, rfl, hh0, hsz0, fun j hj => by omega, hbM⟩
    case round =>
      obtain ⟨k, cur, hk, rfl, hh, hcs, hci, hbe⟩ := hrel
      by_cases hkn : k < n
      · have hkn' : (k : Int) < (n : Int) := by omega
        rcases hb with h0 | ⟨b, o, rfl, hbc⟩
        · omega
        have hbl : b < M := by rw [HM.out]; exact World.block_lt_of_cell? w _ (hbc k hkn)
        have c1 : wr.cell? ⟨b, o + k, none⟩ = some (.int .u16 (q k)) := (hbe.cell (by exact hbl)).trans (hbc k hkn)
        have hMl : M < wr.heap.size := (Array.getElem?_eq_some_iff.1 hh).1
        clear hbc hh0 hbM
        go_wp2_with (go_at_call 4; refine (apf4 (q k) _).mono ?_; rintro e w3 ⟨rfl, hb3⟩; have hh3 := (hb3.block M hMl).trans hh; obtain ⟨v0, v1, v2, v3, e0, e1, e2, e3, ef⟩ := row4 hh3 (Nat.le_of_eq hcs.symm) hkn)
        obtain ⟨cur', hh', hcs', hold, f0, f1, f2, f3⟩ := set4 hh3 (Nat.le_of_eq hcs.symm) hkn (q k)
        have hbn : Below M w ((((w3.setCell ⟨M, k * 4, none⟩ (.int .u64 0)).setCell ⟨M, k * 4 + 1, none⟩ (.int .u64 0)).setCell ⟨M, k * 4 + 2, none⟩ (.pointer none)).setCell ⟨M, k * 4 + 3, none⟩ (.int .u16 (q k))) :=
          ((((hbe.trans (hb3.mono (by omega))).setCell (Nat.le_refl _) _).setCell (Nat.le_refl _) _).setCell (Nat.le_refl _) _).setCell (Nat.le_refl _) _
        go_roundw
        case rel =>
          refine ⟨k + 1, cur', by omega, by go_num, hh', hcs'.trans hcs, fun j hj => ?_, hbn⟩
          by_cases hjk : j < k * 4
          · rw [hold j (.inl hjk)]; exact hci j hjk
          · have : j = k * 4 ∨ j = k * 4 + 1 ∨ j = k * 4 + 2 ∨ j = k * 4 + 3 := by omega
            rcases this with rfl | rfl | rfl | rfl
            · rw [f0, cellOf_0]
            · rw [f1, cellOf_1]
            · rw [f2, cellOf_2]
            · rw [f3, cellOf_3]
        case measure => simp [intOf]; omega
      · obtain rfl : k = n := by omega
        go_wp2_with fail
        go_meet
        case rel => exact ⟨M, k, rfl, by rw [HM.out]; exact Nat.le_refl _, ⟨cur, hh, by omega, hci⟩, HM.out ▸ hbe⟩
  case rest =>
  obtain ⟨M, c, rfl, hM, hl, hb1⟩ := hcut
  have hz := z98
  have hzs := z98_size
  go_upto_block 2 with (go_at_call 5; refine (repo5 wc.heap.size wc.heap.size M n c key high ser q _ hn ?_ ?_ (Nat.le_refl _)).mono ?_; exact nodeC_nd (heap_alloc_new wc _); exact hl.block (Below.heap_alloc wc _ _ hl.lt); rintro e w1 ⟨g, cg, rfl, hge, hlg, hlM, hN, hb2⟩)
  obtain ⟨W0, hW0⟩ : ∃ W, W = wc := ⟨_, rfl⟩
  subst hW0
  have hbw : Below w.heap.size w w1 := (hb1.trans ((Below.refl _ W0).alloc (Nat.le_refl _) _ |>.mono hb1.size)).trans (hb2.mono hb1.size)
  have hX := hN.lt
  have hMl : M < W0.heap.size := hl.lt
  have hXg : W0.heap.size < g := alloc_le hge
  clear hl hb2 hge
  go_cut [] (fun wx => Below w1.heap.size w1 wx)
  case first =>
    go_wp2_with fail
    go_loopw [13] (fun i wr => ∃ k : Nat, k ≤ n ∧ i = .int .i64 k ∧ Below w1.heap.size w1 wr) (fun i _ => n - (intOf i).toNat)
    case atStart => exact ⟨0, Nat.zero_le _, rfl, Below.refl _ _⟩
    case round =>
      obtain ⟨k, hk, rfl, hbe⟩ := hrel
      by_cases hkn : k < n
      · have hkn' : (k : Int) < (n : Int) := by omega
        rcases hb with h0 | ⟨b, o, rfl, hbc⟩
        · omega
        have hbl : b < w.heap.size := World.block_lt_of_cell? w _ (hbc k hkn)
        have c1 : wr.cell? ⟨b, o + k, none⟩ = some (.int .u16 (q k)) := ((hbw.trans (hbe.mono hbw.size)).cell (by exact hbl)).trans (hbc k hkn)
        have hlr := hlg.block (hbe.block g hlg.lt)
        obtain ⟨e0, e1, e2, e3⟩ := hlr.at4 hkn
        clear hbc
        go_upto_region 19 with fail
        go_cut [83] from 59 to 83 (fun s83 wx => s83 = .bool false ∧ Below w1.heap.size w1 wx)
        case first =>
          have hB := fun (W : World) (h : Below wr.heap.size wr W) => (hlr.block (h.block g hlr.lt)).at4 hkn
          go_region_with (first
            | (go_at_call 6; refine (port6 (q k) _).mono ?_; rintro e w5 ⟨rfl, hb5⟩; have hb5' : Below wr.heap.size wr w5 := (Below.refl wr.heap.size wr).drew.trans hb5; have c1' : w5.cell? ⟨b, o + k, none⟩ = some (.int .u16 (q k)) := (hb5'.cell (by have := hbw.size; have := hbe.size; show b < wr.heap.size; omega)).trans c1; obtain ⟨g0, g1, g2, g3⟩ := hB w5 hb5')
            | (go_at_call 7; refine (addr7 (q k) _).mono ?_; rintro e w6 ⟨rfl, hb6⟩))
          all_goals
            go_wp2_with fail
            go_meet
            case rel => exact ⟨rfl, hbe.trans ((hb5'.trans (hb6.mono hb5'.size)).mono hbe.size)⟩
        case rest =>
          obtain ⟨rfl, hbx⟩ := hcut
          go_wp2_with fail
          go_roundw
          case rel => exact ⟨k + 1, by omega, by go_num, hbx⟩
          case measure => simp [intOf]; omega
      · obtain rfl : k = n := by omega
        go_wp2_with fail
        go_meet
        case rel => exact hbe
  case rest =>
  obtain ⟨W1, hW1⟩ : ∃ W, W = wc := ⟨_, rfl⟩
  subst hW1
  have hlM1 := hlM.block (hcut.block M hlM.lt)
  have hN1 := hN.block (hcut.block W0.heap.size hX)
  have hlg1 := hlg.block (hcut.block g hlg.lt)
  have hbw1 : Below w.heap.size w W1 := hbw.trans (hcut.mono hbw.size)
  have hwX : w.heap.size ≤ W0.heap.size := hb1.size
  clear hlM hN hlg hcut hbw hX hb1
  go_upto_block 4 with fail
  go_cut [] (fun wx => Below g W1 wx)
  case first =>
    go_wp2_with fail
    obtain ⟨cur0, hh0, hsz0, _⟩ := hlg1
    clear hlM1 hN1
    go_loopw [14] (fun i wr => ∃ (k : Nat) (cur : Array Value), k ≤ n ∧ i = .int .i64 k ∧ wr.heap[g]? = some (.cells cur 34 (0, 0)) ∧ n * 4 ≤ cur.size ∧ Below g W1 wr) (fun i _ => n - (intOf i).toNat)
    case atStart => exact ⟨0, cur0, Nat.zero_le _, rfl, hh0, hsz0, Below.refl _ _⟩
    case round =>
      obtain ⟨k, cur, hk, rfl, hh, hcs, hbe⟩ := hrel
      by_cases hkn : k < n
      · have hkn' : (k : Int) < (n : Int) := by omega
        rcases hb with h0 | ⟨b, o, rfl, hbc⟩
        · omega
        have hbl : b < w.heap.size := World.block_lt_of_cell? w _ (hbc k hkn)
        have c1 : wr.cell? ⟨b, o + k, none⟩ = some (.int .u16 (q k)) := ((hbw1.trans (hbe.mono (by omega))).cell (by exact hbl)).trans (hbc k hkn)
        have hgl : g < wr.heap.size := (Array.getElem?_eq_some_iff.1 hh).1
        clear hbc hh0
        go_wp2_with (go_at_call 4; refine (apf4 _ _).mono ?_; rintro e w3 ⟨rfl, hb3⟩; have hh3 := (hb3.block g hgl).trans hh; obtain ⟨v0, v1, v2, v3, e0, e1, e2, e3, ef⟩ := row4 hh3 hcs hkn)
        obtain ⟨cur', hh', hcs', _⟩ := set4 hh3 hcs hkn (IntKind.u16.wrap (q k + 1))
        refine ⟨⟨k + 1, cur', by omega, by go_num, hh', by omega, ((((hbe.trans (hb3.mono (by omega))).setCell (Nat.le_refl _) _).setCell (Nat.le_refl _) _).setCell (Nat.le_refl _) _).setCell (Nat.le_refl _) _⟩, ?_⟩
        simp [intOf]; omega
      · obtain rfl : k = n := by omega
        go_wp2_with fail
        go_meet
        case rel => exact hbe
  case rest =>
  obtain ⟨W2, hW2⟩ : ∃ W, W = wc := ⟨_, rfl⟩
  subst hW2
  have hlM2 := hlM1.block (hcut.block M (by omega))
  have hN2 := hN1.block (hcut.block W0.heap.size (by omega))
  have hbw2 : Below w.heap.size w W2 := hbw1.trans (hcut.mono (by omega))
  clear hlM1 hN1 hlg1 hbw1 hcut
  have hX2 := hN2.lt
  obtain ⟨c0, c1, c2, c3, c4⟩ := hN2.cells
  go_upto_block 6 with fail
  have hd3 : (W2.alloc (.cells #[.int .u64 key, .int .u64 high, .int .u64 ser, .slice (some ⟨M, 0, none⟩) n c] 38)).cell? ⟨W2.heap.size, 3, none⟩ = some (.slice (some ⟨M, 0, none⟩) n c) := box3 W2 _
  have hlM3 := hlM2.block (Below.heap_alloc W2 (.cells #[.int .u64 key, .int .u64 high, .int .u64 ser, .slice (some ⟨M, 0, none⟩) n c] 38) _ hlM2.lt)
  have hN3 := hN2.block (Below.heap_alloc W2 (.cells #[.int .u64 key, .int .u64 high, .int .u64 ser, .slice (some ⟨M, 0, none⟩) n c] 38) _ hX2)
  have hbw3 := hbw2.alloc hbw2.size (.cells #[.int .u64 key, .int .u64 high, .int .u64 ser, .slice (some ⟨M, 0, none⟩) n c] 38)
  clear c0 c1 c2 c3 c4 hlM2 hN2 hbw2
  obtain ⟨W3, hW3⟩ : ∃ W, W = W2.alloc (.cells #[.int .u64 key, .int .u64 high, .int .u64 ser, .slice (some ⟨M, 0, none⟩) n c] 38) := ⟨_, rfl⟩
  rw [← hW3] at hd3 hlM3 hN3 hbw3 ⊢
  clear hW3
  obtain ⟨Y, hY⟩ : ∃ Y, Y = W2.heap.size := ⟨_, rfl⟩
  rw [← hY] at hd3 ⊢
  clear hY
  have hX3 := hN3.lt
  go_cut [] (fun wx => Below W3.heap.size W3 wx)
  case first =>
    go_wp2_with fail
    clear hN3
    go_loopw [16] (fun i wr => ∃ k : Nat, k ≤ n ∧ i = .int .i64 k ∧ Below W3.heap.size W3 wr) (fun i _ => n - (intOf i).toNat)
    case atStart => exact ⟨0, Nat.zero_le _, rfl, Below.refl _ _⟩
    case round =>
      obtain ⟨k, hk, rfl, hbe⟩ := hrel
      by_cases hkn : k < n
      · have hkn' : (k : Int) < (n : Int) := by omega
        rcases hb with h0 | ⟨b, o, rfl, hbc⟩
        · omega
        have hbl : b < w.heap.size := World.block_lt_of_cell? w _ (hbc k hkn)
        have hYl : Y < W3.heap.size := World.block_lt_of_cell? W3 _ hd3
        have c1 : wr.cell? ⟨b, o + k, none⟩ = some (.int .u16 (q k)) := ((hbw3.trans (hbe.mono hbw3.size)).cell (by exact hbl)).trans (hbc k hkn)
        have d3 : wr.cell? ⟨Y, 3, none⟩ = some (.slice (some ⟨M, 0, none⟩) n c) := (hbe.cell (by exact hYl)).trans hd3
        have hlr := hlM3.block (hbe.block M hlM3.lt)
        obtain ⟨e0, e1, e2, e3⟩ := hlr.at4 hkn
        clear hbc hd3
        go_upto_region 33 with fail
        go_cut [160] from 134 to 160 (fun s160 wx => s160 = .bool false ∧ Below W3.heap.size W3 wx)
        case first =>
          have hB := fun (W : World) (h : Below wr.heap.size wr W) => (hlr.block (h.block M hlr.lt)).at4 hkn
          go_region_with (first
            | (go_at_call 6; refine (port6 (q k) _).mono ?_; rintro e w5 ⟨rfl, hb5⟩; have hb5' : Below wr.heap.size wr w5 := (Below.refl wr.heap.size wr).drew.trans hb5; have c1' : w5.cell? ⟨b, o + k, none⟩ = some (.int .u16 (q k)) := (hb5'.cell (by have := hbw3.size; have := hbe.size; show b < wr.heap.size; omega)).trans c1; have d3' : w5.cell? ⟨Y, 3, none⟩ = some (.slice (some ⟨M, 0, none⟩) n c) := (hb5'.cell (by have := hbe.size; show Y < wr.heap.size; omega)).trans d3; obtain ⟨g0, g1, g2, g3⟩ := hB w5 hb5')
            | (go_at_call 7; refine (addr7 (q k) _).mono ?_; rintro e w6 ⟨rfl, hb6⟩))
          all_goals
            go_wp2_with fail
            go_meet
            case rel => exact ⟨rfl, hbe.trans ((hb5'.trans (hb6.mono hb5'.size)).mono hbe.size)⟩
        case rest =>
          obtain ⟨rfl, hbx⟩ := hcut
          go_wp2_with fail
          go_roundw
          case rel => exact ⟨k + 1, by omega, by go_num, hbx⟩
          case measure => simp [intOf]; omega
      · obtain rfl : k = n := by omega
        go_wp2_with fail
        go_meet
        case rel => exact hbe
  case rest =>
  obtain ⟨W4, hW4⟩ : ∃ W, W = wc := ⟨_, rfl⟩
  subst hW4
  have hN4 := hN3.block (hcut.block W0.heap.size hX3)
  have hbw4 : Below w.heap.size w W4 := hbw3.trans (hcut.mono hbw3.size)
  clear hN3 hbw3 hcut hlM3 hd3
  go_wp2_with fail
  refine (try_free ⟨W0.heap.size, 37, none⟩ _ hN4.cells.1 (hN4.free 37)).mono ?_
  rintro e wt ⟨rfl, hwt⟩
  have hNt : Nd wt W0.heap.size 1 key high ser (.slice (some ⟨M, 0, none⟩) n c) := by rw [hwt]; exact hN4.lock 1
  have hbt : Below w.heap.size w wt := by rw [hwt]; exact hbw4.setCell (p := ⟨W0.heap.size, 37, none⟩) hwX _
  clear hwt
  go_wp2_with fail
  refine (unlock_held Yba.muLib ⟨W0.heap.size, 37, none⟩ wt hNt.cells.1 (hNt.free 37)).mono ?_
  rintro e wu ⟨rfl, hwu⟩
  have hbu : Below w.heap.size w wu := by rw [hwu]; exact hbt.setCell (p := ⟨W0.heap.size, 37, none⟩) hwX _
  clear hwu
  go_wp2
  go_ret
  exact ⟨rfl, hbu⟩

set_option maxRecDepth 100000 in
/-- The slice is too long: true at once. -/
theorem long (a : Option Addr) (n cap0 : Nat) (x y z : Value) (w : World) (hm : n ≤ maxLen) (h : 1048576 < n) :
    Calls Yba.prog 3 #[.slice a n cap0, x, y, z] w fun e w' => e = .returned (.bool true) ∧ Below w.heap.size w w' := by
  unfold maxLen at hm
  have h1' : (1048576 : Int) < (n : Int) := by omega
  go_enter Yba.func3, Yba.ntmps3
  go_wp2
  go_ret
  exact ⟨rfl, Below.refl _ _⟩

end Go.Proofs.Ybulkdzrg

/-
  Seat b6308a: the walk of the law itself (3).
-/
import Derived.Test.YbulkdzpqWant
import Derived.Test.YbulkdzpqUnread
import Derived.Deep.QuietTactic
import Derived.BigQuiet
namespace Go.Proofs.Ybulkdzpq
open Go.RowKit Go.Maps Go.MuLone

set_option maxRecDepth 100000 in
theorem long (start count crc blocks : Int) (ak : Option Addr) (lk ck : Nat) (av : Option Addr) (lv cv : Nat) (mapNil withErr : Bool) (w : World) (hl : lk ≤ 9223372036854775807) (h : 4096 < lk) :
    Calls Yba.prog 3 #[.int .u64 start, .int .u64 count, .int .u32 crc, .int .u64 blocks, .slice ak lk ck, .slice av lv cv, .bool mapNil, .bool withErr] w fun e w' => e = .returned (.bool true) ∧ Below w.heap.size w w' := by
  go_enter Yba.func3, Yba.ntmps3
  go_wp2
  go_ret
  exact ⟨rfl, Below.refl _ _⟩

theorem bel_drewN {B : Nat} {a w : World} (h : Below B a w) (n : Nat) : Below B a (w.drewN n) := h.trans ⟨rfl, rfl, rfl, Nat.le_refl _, fun _ _ => rfl⟩

/-- errors.New: a new block. -/
theorem new4 (s : ByteArray) (w : World) : Calls Yba.prog 4 #[.string s] w fun e w' => ∃ v o, e = .returned v ∧ w' = w.alloc o := by
  go_enter Yba.func4, Yba.ntmps4
  go_wp2
  go_ret
  exact ⟨_, _, rfl, rfl⟩

theorem made_box (w : World) (blocks : Int) : Box ((w.alloc (.cells (boxCells blocks 0 (some (w.heap.size + 1))) 45)).alloc (.map #[] 0)) w.heap.size blocks 0 (some (w.heap.size + 1)) := by
  unfold Box
  rw [Below.heap_alloc _ _ _ (by simp)]
  exact heap_new w _
theorem made_map (w : World) (blocks : Int) : MB ((w.alloc (.cells (boxCells blocks 0 (some (w.heap.size + 1))) 45)).alloc (.map #[] 0)) (w.heap.size + 1) 0 (fun _ => none) 0 := by
  have := MB.made (w.alloc (.cells (boxCells blocks 0 (some (w.heap.size + 1))) 45))
  simpa using this
theorem made_below (w : World) (o o' : Obj) : Below w.heap.size w ((w.alloc o).alloc o') := ((Below.refl _ w).alloc (Nat.le_refl _) o).alloc (by simp) o'

set_option maxRecDepth 100000 in
set_option maxHeartbeats 4000000 in
theorem keyed (start count crc blocks : Int) (b o lk ck : Nat) (zs : List Int) (av : Option Addr) (lv cv : Nat) (bs : List Bool) (withErr : Bool) (w : World) (hl : lk ≤ 4096) (hlv : lv ≤ 9223372036854775807)
    (hws : (Lit.int .u64 start).wf = true) (hw : ∀ i, (Lit.int .u64 (keyF zs i)).wf = true) (hb : b < w.heap.size)
    (hk : ∀ i, i < lk → w.cell? ⟨b, o + i, none⟩ = some (.int .u64 (keyF zs i))) (hv : Vals w av lv bs) :
    Calls Yba.prog 3 #[.int .u64 start, .int .u64 count, .int .u32 crc, .int .u64 blocks, .slice (some ⟨b, o, none⟩) lk ck, .slice av lv cv, .bool false, .bool withErr] w fun e w' => e = .returned (.bool true) ∧ Below w.heap.size w w' := by
  have q42 : ∀ (w : World) (r : Option Nat), (binOp .eql 42 (.map r) (.map none)).run Yba.prog w = .ok (.bool r.isNone) w := fun w r => run_eql_map_nil w _ _ _ r Yba.underlying42
  have hmm := @run_makeMap Yba.prog
  have h4096 : decide ((4096 : Int) < (lk : Int)) = false := decide_eq_false (by omega)
  go_enter Yba.func3, Yba.ntmps3
  go_wp2
  go_loopw [18] (fun i wr => ∃ k : Nat, k ≤ lk ∧ i = .int .i64 k ∧ Box wr w.heap.size blocks 0 (some (w.heap.size + 1)) ∧ MB wr (w.heap.size + 1) k (Pl.M (keyF zs) (valF bs lv) k) (Pl.S (keyF zs) (valF bs lv) k) ∧ Below w.heap.size w wr)
    (fun i _ => lk - (intOf i).toNat)
  case atStart => exact ⟨0, Nat.zero_le _, rfl, made_box w blocks, made_map w blocks, made_below w _ _⟩
  case round =>
    obtain ⟨k, hkl, rfl, hbox, hmb, hbel⟩ := hrel
    by_cases hlt : k < lk
    · have hck : wr.cell? ⟨b, o + k, none⟩ = some (.int .u64 (keyF zs k)) := (hbel.cell (by exact hb)).trans (hk k hlt)
      obtain ⟨w3, hrun, hm3, ht3⟩ := hmb.drew.put (by unfold maxLen; omega) (hw k) (valF bs lv k)
      have hboxd : Box wr.drew w.heap.size blocks 0 (some (w.heap.size + 1)) := hbox
      have hbox3 := hboxd.turned ht3 (by omega)
      have hbel3 : Below w.heap.size w w3 := hbel.drew.trans (MB.below ht3 (by omega) (by show _ ≤ wr.heap.size; exact hbel.size))
      obtain ⟨_, _, _, _, _, _, d12, _⟩ := hbox.cells
      have hlt' : (k : Int) < (lk : Int) := by omega
      have hM3 : MB w3 (w.heap.size + 1) (k + 1) (Pl.M (keyF zs) (valF bs lv) (k + 1)) (Pl.S (keyF zs) (valF bs lv) (k + 1)) := hm3
      clear hm3 ht3 hbox hmb hboxd hk hw
      rcases hv with h1 | ⟨bv, ov, rfl, hcv⟩
      · have ev : valF bs lv k = true := if_pos h1
        rw [ev] at hrun
        clear ev
        have hz : decide ((0 : Int) < (lv : Int)) = false := decide_eq_false (by omega)
        generalize keyF zs k = ki at *
        go_wp2_with fail
        go_region
        all_goals
          go_wp2
          go_roundw
          case rel => exact ⟨k + 1, by omega, by go_num, hbox3, hM3, hbel3⟩
          case measure => simp [intOf]; omega
      · rcases Nat.eq_zero_or_pos lv with h1 | h1
        · have ev : valF bs lv k = true := if_pos h1
          rw [ev] at hrun
          clear ev
          have hz : decide ((0 : Int) < (lv : Int)) = false := decide_eq_false (by omega)
          generalize keyF zs k = ki at *
          go_wp2_with fail
          go_region
          all_goals
            go_wp2
            go_roundw
            case rel => exact ⟨k + 1, by omega, by go_num, hbox3, hM3, hbel3⟩
            case measure => simp [intOf]; omega
        · have ev : valF bs lv k = bs.getD (k % lv) false := if_neg (by omega)
          have hmod := Nat.mod_lt k h1
          have hcm : wr.cell? ⟨bv, ov + k % lv, none⟩ = some (.bool (bs.getD (k % lv) false)) := by
            have h := hcv (k % lv) hmod
            have hbv := World.block_lt_of_cell? w _ h
            exact (hbel.cell (by exact hbv)).trans h
          rw [ev] at hrun
          clear ev hcv
          generalize bs.getD (k % lv) false = bb at *
          have hz : decide ((0 : Int) < (lv : Int)) = true := decide_eq_true (by omega)
          have hz0 : (0 : Int) < (lv : Int) := by omega
          generalize keyF zs k = ki at *
          go_wp2_with fail
          go_region
          all_goals
            go_wp2
            go_roundw
            case rel => exact ⟨k + 1, by omega, by go_num, hbox3, hM3, hbel3⟩
            case measure => simp [intOf]; omega
    · obtain rfl : k = lk := by omega
      clear hkl hlt hmm
      cases withErr
      all_goals
        go_wp2_with (go_at_call 4; refine (new4 _ _).mono ?_; rintro e wn ⟨v, ob, rfl, hwn⟩)
        refine (unread_some w.heap.size w.heap.size (w.heap.size + 1) k blocks start count crc _ (Pl.M (keyF zs) (valF bs lv) k) (Pl.S (keyF zs) (valF bs lv) k) _ ?hB ?hM (Nat.le_refl _) (by omega) (by omega) (by unfold maxLen; omega) hws).mono ?_
        case hB => first | exact hbox | (subst hwn; exact hbox.block (Below.heap_alloc _ _ _ hbox.lt))
        case hM => first | exact hmb | (subst hwn; exact hmb.alloc _)
        rintro e W1 ⟨rfl, hbox1, hmb1, hbel1⟩
        have hbelW : Below w.heap.size w W1 := by first | exact hbel.trans hbel1 | (subst hwn; exact (hbel.alloc hbel.size _).trans hbel1)
        clear hbel hbel1 hbox hmb
        try clear hwn
        rw [Pl.C_eq] at hmb1
        have hget := hmb1.get hws
        rw [Pl.upd_same] at hget
        have hget' : (Instr.lookup 42 (.map (some (w.heap.size + 1))) (.int .u64 start) false).run Yba.prog W1 = .ok (.bool true) W1 := hget
        clear hget
        obtain ⟨d0, d1, d2, d3, d5, d11, d12, d13⟩ := hbox1.cells
        go_wp2_with fail
        clear hget' d0 d1 d2 d3 d5 d11 d12 d13
        go_loopw [21, 22] (fun c i wq => ∃ j : Nat, j ≤ k ∧ i = .int .i64 j ∧ c = .int .i64 (Pl.C (keyF zs) start j : Nat) ∧ Box wq w.heap.size blocks 0 (some (w.heap.size + 1)) ∧
            MB wq (w.heap.size + 1) (k + 1) (Pl.upd (Pl.M (keyF zs) (valF bs lv) k) start true) (Pl.C (keyF zs) start k) ∧ Below w.heap.size w wq)
          (fun _ i _ => k - (intOf i).toNat)
        case atStart => exact ⟨0, Nat.zero_le _, rfl, rfl, hbox1, hmb1, hbelW⟩
        case round =>
          clear hbox1 hmb1 hbelW
          obtain ⟨j, hjk, rfl, rfl, hbox, hmb, hbel⟩ := hrel
          by_cases hj : j < k
          · have hcj : wr.cell? ⟨b, o + j, none⟩ = some (.int .u64 (keyF zs j)) := (hbel.cell (by exact hb)).trans (hk j hj)
            have hC := Pl.C_le (keyF zs) start j
            by_cases hs : keyF zs j = start
            · have hq : (keyF zs j == start) = true := by simpa using hs
              have hCC : Hid (Pl.C (keyF zs) start (j + 1) = Pl.C (keyF zs) start j) := Pl.C_start hs
              clear hs
              go_wp2
              go_roundw
              case rel => exact ⟨j + 1, by omega, by go_num, by rw [hCC.out], hbox, hmb, hbel⟩
              case measure => simp [intOf]; omega
            · have hq : (keyF zs j == start) = false := by simpa using hs
              have HS : Hid (keyF zs j ≠ start) := hs
              clear hs
              go_wp2
              go_loopw [23, 24] (fun d t wi => ∃ m : Nat, m ≤ j ∧ t = .int .i64 m ∧ d = .bool false ∧ Hid (∀ m', m' < m → keyF zs m' ≠ keyF zs j) ∧ Box wi w.heap.size blocks 0 (some (w.heap.size + 1)) ∧
                  MB wi (w.heap.size + 1) (k + 1) (Pl.upd (Pl.M (keyF zs) (valF bs lv) k) start true) (Pl.C (keyF zs) start k) ∧ Below w.heap.size w wi)
                (fun _ t _ => j - (intOf t).toNat)
              case atStart => exact ⟨0, Nat.zero_le _, rfl, rfl, fun m' h => absurd h (Nat.not_lt_zero _), hbox, hmb, hbel⟩
              case round =>
                clear hbox hmb hbel hcj
                obtain ⟨m, hmj, rfl, rfl, HM, hbox, hmb, hbel⟩ := hrel
                have hcj : wr.cell? ⟨b, o + j, none⟩ = some (.int .u64 (keyF zs j)) := (hbel.cell (by exact hb)).trans (hk j hj)
                have hj' : (j : Int) < (k : Int) := by omega
                obtain ⟨_, _, _, _, _, _, d12, _⟩ := hbox.cells
                obtain ⟨r, hr⟩ : ∃ r, r = (Pl.M (keyF zs) (valF bs lv) k (keyF zs j)).getD false := ⟨_, rfl⟩
                have hgo : ∀ n, (Instr.lookup 42 (.map (some (w.heap.size + 1))) (.int .u64 (keyF zs j)) true).run Yba.prog (wr.drewN n) = .ok (.tuple #[.bool r, .bool true]) (wr.drewN n) := fun n => by
                  have h := (hmb.drewN n).get_ok (hw j)
                  rw [Pl.upd_other _ _ HS.out, Pl.M_hit _ _ k j hj, ← hr] at h
                  exact h
                have HR : Hid (r = (Pl.M (keyF zs) (valF bs lv) k (keyF zs j)).getD false) := hr
                clear hr
                by_cases hm : m < j
                · have hcm : wr.cell? ⟨b, o + m, none⟩ = some (.int .u64 (keyF zs m)) := (hbel.cell (by exact hb)).trans (hk m (by omega))
                  have hm' : (m : Int) < (k : Int) := by omega
                  by_cases hd : keyF zs m = keyF zs j
                  · have hqd : (keyF zs m == keyF zs j) = true := by simpa using hd
                    have hdup : Hid (Pl.dup (keyF zs) j = true) := Pl.dup_yes hm hd
                    clear hd
                    go_wp2_with fail
                    go_quiet (fail)
                    go_wp2_with fail
                    have HCC : Hid (Pl.C (keyF zs) start (j + 1) = Pl.C (keyF zs) start j) := Pl.C_dup HS.out hdup.out
                    go_quiet (fail)
                    go_wp2_with fail
                    refine (want_hit r (keyF zs j) start b o k ck zs av lv cv bs _ hq hl hlv ?hk1 ?hv1 HR).mono ?_
                    case hk1 => exact fun i hi => (hbel.cell (by exact hb)).trans (hk i hi)
                    case hv1 => exact hv.below (bel_drewN hbel _)
                    rintro e wz ⟨rfl, hwz⟩
                    subst hwz
                    go_wp2
                    go_roundw
                    case rel => exact ⟨j + 1, by omega, by go_num, by rw [HCC.out], hbox, hmb.drewN _, bel_drewN hbel _⟩
                    case measure => simp [intOf]; omega
                  · have hqd : (keyF zs m == keyF zs j) = false := by simpa using hd
                    have HM2 : Hid (∀ m', m' < m + 1 → keyF zs m' ≠ keyF zs j) := fun m' h => by
                      rcases Nat.lt_or_ge m' m with h' | h'
                      · exact HM.out m' h'
                      · obtain rfl : m' = m := by omega
                        exact hd
                    clear hd HM
                    go_wp2_with fail
                    go_quiet (fail)
                    go_wp2
                    go_roundw
                    case rel => exact ⟨m + 1, by omega, by go_num, rfl, HM2, hbox, hmb, hbel.trans ⟨rfl, rfl, rfl, Nat.le_refl _, fun _ _ => rfl⟩⟩
                    case measure => simp [intOf]; omega
                · have HCC : Hid (Pl.C (keyF zs) start (j + 1) = Pl.C (keyF zs) start j + 1) := Pl.C_new HS.out (Pl.dup_no (fun m' h => HM.out m' (by omega)))
                  clear HM
                  go_wp2_with fail
                  go_quiet (fail)
                  go_wp2_with fail
                  refine (want_hit r (keyF zs j) start b o k ck zs av lv cv bs _ hq hl hlv ?hk2 ?hv2 HR).mono ?_
                  case hk2 => exact fun i hi => (hbel.cell (by exact hb)).trans (hk i hi)
                  case hv2 => exact hv.below (bel_drewN hbel _)
                  rintro e wz ⟨rfl, hwz⟩
                  subst hwz
                  go_wp2
                  go_roundw
                  case rel => exact ⟨j + 1, by omega, by go_num, by rw [HCC.out]; go_num, hbox, hmb.drewN _, bel_drewN hbel _⟩
                  case measure => simp [intOf]; omega
          · obtain rfl : j = k := by omega
            clear hjk hj hk hw hv hws
            obtain ⟨D, hown, _, _, hsD⟩ := hmb
            have HSD : Hid (size D = Pl.C (keyF zs) start j) := hsD
            clear hsD
            obtain ⟨d0, d1, d2, d3, d5, d11, d12, d13⟩ := hbox.cells
            have q35 : ∀ (w : World) (r : Option Nat), (binOp .neq 35 (.map r) (.map none)).run Yba.prog w = .ok (.bool (!r.isNone)) w := fun w r => run_neq_map_nil w _ _ _ r Yba.underlying35
            have q43 : ∀ (w : World) (r : Option Nat), (binOp .neq 43 (.map r) (.map none)).run Yba.prog w = .ok (.bool (!r.isNone)) w := fun w r => run_neq_map_nil w _ _ _ r Yba.underlying43
            have f3 := hbox.free 3
            go_wp2_with (at_len; refine wpList_len_own _ rfl _ 42 rfl 22 4 Yba.underlying42 _ (w.heap.size + 1) (j + 1) D rfl hown ?_; rw [HSD.out])
            refine (try_free ⟨w.heap.size, 3, none⟩ _ d3 f3).mono ?_
            rintro e wt ⟨rfl, hwt⟩
            have hboxt : Box wt w.heap.size blocks 1 (some (w.heap.size + 1)) := by rw [hwt]; exact hbox.lock 1
            have hbelt : Below w.heap.size w wt := by rw [hwt]; exact hbel.setCell (p := ⟨w.heap.size, 3, none⟩) (Nat.le_refl _) _
            clear hwt
            go_wp2_with fail
            refine (unlock_held Yba.muLib ⟨w.heap.size, 3, none⟩ wt (hboxt.cells.2.2.2.1) (hboxt.free 3)).mono ?_
            rintro e wu ⟨rfl, hwu⟩
            have hbelu : Below w.heap.size w wu := by rw [hwu]; exact hbelt.setCell (p := ⟨w.heap.size, 3, none⟩) (Nat.le_refl _) _
            clear hwu
            go_wp2
            go_ret
            exact ⟨rfl, hbelu⟩

end Go.Proofs.Ybulkdzpq

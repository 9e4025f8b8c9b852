/-
  Seat b6310aF: the contract of NewRoleTable (6).
-/
import Derived.Test.YbulkdzqsFmtNew0
import Derived.RegionTactic
import Derived.BigRegion
namespace Go.Proofs.YbulkdzqsFmt
open Go.RowKit Go.Maps

theorem Sp_zero {pm : Nat → Nat → List Nat} {j : Nat} (h : ∀ k, pm j k = []) {key : List UInt8} (hk : Pl.roleIdx key = some j) (r : List UInt8) : Pl.Sp pm key r = 0 := by
  rw [Pl.Sp_some hk, h 0]
  split
  · rw [h]; rfl
  · rfl

def startW (w : World) : World := ((((w.alloc (Obj.map #[] 0)).alloc (Obj.cells #[Value.string ⟨#[42]⟩] 9)).alloc (Obj.cells #[Value.map (some w.heap.size), Value.slice (some ⟨w.heap.size + 1, 0, none⟩) 1 1, Value.slice none 0 0] 42)).alloc (Obj.map #[] 0))

theorem start6 (w : World) : ∃ w5, (Instr.mapUpdate 59 (.map (some (w.heap.size + 1 + 1 + 1))) (.string ⟨#[42]⟩) (.int .u32 0)).run Ybaf.prog (startW w) = .ok () w5 ∧
    St w5 w.heap.size (w.heap.size + 1 + 1) w.heap.size (w.heap.size + 1 + 1 + 1) 0 (fun _ => none) (fun k => if k = Pl.resL 0 then some 0 else none) (.slice (some ⟨w.heap.size + 1, 0, none⟩) 1 1) (.slice none 0 0) [star] 0 (fun _ => 0) (fun _ => 0) (fun _ _ => none) ∧ Below w.heap.size w w5 ∧ w.heap.size + 1 + 1 + 1 < w5.heap.size := by
  have h1 := RM.made w
  obtain ⟨wa, hwa⟩ : ∃ wa, wa = w.alloc (Obj.map #[] 0) := ⟨_, rfl⟩
  have ha : wa.heap.size = w.heap.size + 1 := by rw [hwa]; simp
  rw [← hwa] at h1
  obtain ⟨wb, hwb⟩ : ∃ wb, wb = wa.alloc (Obj.cells #[Value.string ⟨#[42]⟩] 9) := ⟨_, rfl⟩
  have hb : wb.heap.size = w.heap.size + 1 + 1 := by rw [hwb]; simp [ha]
  obtain ⟨wc, hwc⟩ : ∃ wc, wc = wb.alloc (Obj.cells #[Value.map (some w.heap.size), Value.slice (some ⟨w.heap.size + 1, 0, none⟩) 1 1, Value.slice none 0 0] 42) := ⟨_, rfl⟩
  have hc : wc.heap.size = w.heap.size + 1 + 1 + 1 := by rw [hwc]; simp [hb]
  have hP := RM.made wc
  rw [hc] at hP
  obtain ⟨wd, hwd⟩ : ∃ wd, wd = wc.alloc (Obj.map #[] 0) := ⟨_, rfl⟩
  have hd : wd.heap.size = w.heap.size + 1 + 1 + 1 + 1 := by rw [hwd]; simp [hc]
  rw [← hwd] at hP
  have hst : startW w = wd := by rw [hwd, hwc, hwb, hwa]; rfl
  obtain ⟨w5, s5, hrun, hP5, hs5, ht5⟩ := hP.put Ybaf.underlying59 (by unfold maxLen; omega) (k := star) (by decide) (.int .u32 0)
  have hblk : ∀ b, b < w.heap.size + 1 + 1 + 1 → w5.heap[b]? = wd.heap[b]? := fun b hb' => ht5.grown.block b (by omega) (fun e => by have := Option.some.inj e; omega)
  have hR5 : RM w5 w.heap.size (fun _ => none) 0 := h1.block ((hblk _ (by omega)).trans (by rw [hwd, Below.heap_alloc _ _ _ (by omega), hwc, Below.heap_alloc _ _ _ (by omega), hwb, Below.heap_alloc _ _ _ (by omega)]))
  have hX5 : w5.heap[w.heap.size + 1 + 1]? = some (.cells #[.map (some w.heap.size), .slice (some ⟨w.heap.size + 1, 0, none⟩) 1 1, .slice none 0 0] 42 (0, 0)) := by
    rw [hblk _ (by omega), hwd, Below.heap_alloc _ _ _ (by omega), hwc, ← hb]; exact heap_alloc_new wb _
  have hs5' : w5.heap[w.heap.size + 1]? = some (.cells #[.string ⟨#[42]⟩] 9 (0, 0)) := by
    rw [hblk _ (by omega), hwd, Below.heap_alloc _ _ _ (by omega), hwc, Below.heap_alloc _ _ _ (by omega), hwb, ← ha]; exact heap_alloc_new wa _
  have hfP : (fun k => ((if k = Pl.resL 0 then some 0 else none : Option Nat)).map mkP) = updF (fun _ => none) star.data.toList (.int .u32 0) := by
    funext k; unfold updF; show _ = if k = Pl.resL 0 then _ else _; split <;> rfl
  refine ⟨w5, by rw [hst]; exact hrun, ?_, ?_, ?_⟩
  · refine { tab := ⟨hX5, ⟨0, hR5⟩, ⟨rfl, .inr ⟨w.heap.size + 1, 1, _, rfl, by omega, hs5', Nat.le_refl _, by unfold maxLen; omega, rfl, rfl⟩⟩, World.ownsRow_nil _ _ _ _, fun i hi => by omega, fun i hi => by omega⟩,
              fine := ⟨rfl, by simp, by simp, fun k m p wd h => (by cases h), fun i hi => (by omega), fun i hi => (by omega)⟩, rR := ⟨0, hR5, Nat.le_refl _⟩, rP := ⟨s5, by rw [hfP]; exact hP5, hs5⟩, dPR := by omega, dPo := fun i hi => by omega, pl := fun k p h => ?_, cR := by simp, cW := Nat.le_refl _ }
    by_cases hk : k = Pl.resL 0
    · rw [if_pos hk] at h; cases h; exact ⟨by simp, by rw [hk]; rfl⟩
    · rw [if_neg hk] at h; cases h
  · have : Below w.heap.size w wd := by rw [hwd, hwc, hwb, hwa]; exact ((((Below.refl _ w).alloc (Nat.le_refl _) _).alloc (by simp) _).alloc (by simp; omega) _).alloc (by simp; omega) _
    exact this.grown ht5.grown (by omega) (fun k hk => by cases hk; omega)
  · have := ht5.grown.size; omega

theorem Ybaf.info62 : (Ybaf.prog.info? 62).map (fun i => (i.zero, i.size, i.bytes)) = some (some (.agg #[.int .i64 0, .map none]), 2, 16) := by kernel_rfl
theorem news_laidF (w : World) (l : List Value) (t : TypeId) : ∀ j u, l[j]? = some u → (w.alloc (.cells l.toArray t)).cell? ((⟨w.heap.size, 0, none⟩ : Addr).add j) = some u := by
  intro j u h
  have e : (⟨w.heap.size, 0, none⟩ : Addr).add j = ⟨w.heap.size, j, none⟩ := by simp [Addr.add]; exact Eq.symm
  rw [e, World.cell?_alloc_at _ _ _ _ rfl]
  simpa using h

theorem owns_slice {w : World} {base : Nat} {e : TypeId} {size : Nat} {v : Value} {n : Nat} {xs : List Value} (h : w.ownsRow base e size v n xs) (hn : 0 < n) : ∃ g cap, v = .slice (some ⟨g, 0, none⟩) n cap := by
  obtain ⟨_, h2⟩ := h
  rcases h2 with ⟨_, h2⟩ | ⟨g, cap, cur, hv, _⟩
  · omega
  · exact ⟨g, cap, hv⟩

theorem res_size (k : Nat) : (resS k).size ≤ maxLen := by
  have : (Pl.resL k).length ≤ 1 := by unfold Pl.resL; split <;> simp
  unfold maxLen resS
  simp [ByteArray.size]
  omega
theorem role_size (k : Nat) : (roleS k).size ≤ maxLen := by
  have : (Pl.roleL k).length ≤ 6 := by unfold Pl.roleL; split <;> simp
  unfold maxLen roleS
  simp [ByteArray.size]
  omega

/-- Behind the making of a wide role's masks and the loop's iterator. -/
theorem wide_made {w1 w4 : World} (hg : ((w1.alloc (Obj.map #[] 0)).alloc (Obj.cells #[Value.int .i64 0, Value.map (some w1.heap.size)] 62)).grownBy w4 none) :
    RM w4 w1.heap.size (fun _ => none) 0 ∧ w4.heap[w1.heap.size + 1]? = some (.cells #[.int .i64 ((0 : Nat) : Int), .map (some w1.heap.size)] 62 (0, 0)) ∧ Below w1.heap.size w1 w4 := by
  refine ⟨(RM.made w1).block ((hg.block _ (by simp; omega) (by simp)).trans (Below.heap_alloc _ _ _ (by simp))), ?_, ?_⟩
  · rw [hg.block _ (by simp) (by simp)]
    have := heap_alloc_new (w1.alloc (Obj.map #[] 0)) (Obj.cells #[Value.int .i64 0, Value.map (some w1.heap.size)] 62)
    simpa using this
  · exact (((Below.refl _ w1).alloc (Nat.le_refl _) _).alloc (by simp) _).grown hg (by simp; omega) (fun k h => by cases h)

set_option maxRecDepth 100000 in
set_option maxHeartbeats 4000000 in
theorem new6 {w : World} {base bG : Nat} {B : Nat → Nat} {V : Nat → Nat → Value} {nm : Nat → Bool} {pm : Nat → Nat → List Nat} (hG : Gr w base bG B V nm pm 1024) :
    Calls Ybaf.prog 6 #[.map (some bG)] w fun e w' => ∃ X bR fR vs vw Rs nW ev ob fo, e = .returned (.tuple #[.pointer (some ⟨X, 0, none⟩), .nilIface]) ∧ Tab w' w.heap.size X bR fR vs vw Rs nW ev ob fo ∧ Fine fR Rs nW ev fo ∧
      (∀ key r, said fR Rs ev fo key r = Pl.Sp pm key r) ∧ Below w.heap.size w w' := by
  obtain ⟨sG, hGm, hsG⟩ := hG.hG
  obtain ⟨DG, hownG, hsDG⟩ := hGm.len
  have HSD : Hid (Maps.size DG = sG) := hsDG
  clear hsDG
  have h39 := fun n w => run_makeMap_hint Ybaf.underlying39 n w
  have h60 := fun n w => run_makeMap_hint Ybaf.underlying60 n w
  have hmm := @run_makeMap Ybaf.prog
  obtain ⟨w5, hrun5, hst5, hbel5, hlt5⟩ := start6 w
  unfold startW at hrun5
  have hGm5 := hGm.block (hbel5.block _ hGm.lt)
  go_enter Ybaf.func6, Ybaf.ntmps6
  go_wp2_with (first
    | (at_len; refine wpList_len_own _ rfl _ 25 rfl 9 29 Ybaf.underlying25 _ bG sG DG rfl hownG ?_; rw [HSD.out])
    | (at_range; refine wp_range _ rfl _ 25 29 rfl Ybaf.underlying25 bG sG _ rfl hGm5 ?_; intro w6 hrg6 hg6 hs6))
  try go_frame
  clear hrun5 hownG HSD
  have hbel6 : Below w.heap.size w w6 := hbel5.grown hg6 hbel5.size (fun k h => by cases h)
  have hst6 := hst5.below ((Below.refl w5.heap.size w5).grown hg6 (Nat.le_refl _) (fun k h => by cases h)) (Nat.le_refl _)
  obtain ⟨r, hr⟩ : ∃ r, r = w5.heap.size := ⟨_, rfl⟩
  rw [← hr] at hrg6 hlt5 ⊢
  clear hst5 hbel5 hg6 hs6 hGm5 hr
  go_loopw [6] (fun _ wr => ∃ (left : List UInt8 → Bool) (cnt bound : Nat) (fR : List UInt8 → Option (Nat × Nat × Nat)) (fP : List UInt8 → Option Nat) (vs vw : Value) (Rs : List ByteArray) (nW : Nat) (ev ob : Nat → Nat) (fo : Nat → List UInt8 → Option Nat),
      RG wr bG r (outerF B nm) sG left cnt ∧ bound + 2 * cnt ≤ 2 * sG ∧ St wr w.heap.size (w.heap.size + 1 + 1) w.heap.size (w.heap.size + 1 + 1 + 1) bound fR fP vs vw Rs nW ev ob fo ∧ Cor pm left fR Rs ev fo ∧ Below w.heap.size w wr)
    (fun _ wr => wr.rangeLeft bG r)
  case atStart =>
    refine ⟨_, _, 0, _, _, _, _, _, _, _, _, _, hrg6, by omega, hst6, fun key => ⟨fun _ => rfl, fun hk q => ?_⟩, hbel6⟩
    show 0 = _
    cases hrx : Pl.roleIdx key with
    | none => rw [Pl.Sp_none hrx]
    | some j =>
      refine (Sp_zero (j := j) (fun k => ?_) hrx q).symm
      by_cases hp : pm j k = []
      · exact hp
      · have hn := hG.hnm j k hp
        have hk' : (outerF B nm key).isSome = false := hk
        unfold outerF at hk'
        rw [hrx] at hk'
        simp [hn] at hk'
  case round =>
    obtain ⟨left, cnt, bound, fR, fP, vs, vw, Rs, nW, ev, ob, fo, hrg, hbc, hst, hcor, hbel⟩ := hrel
    go_wp2_with (at_next; refine wp_next _ rfl _ rfl bG r sG (outerF B nm) left cnt rfl hrg ?_ ?_)
    · intro hl
      go_wp2
      go_ret2
      exact ⟨_, _, fR, vs, vw, Rs, nW, ev, ob, fo, rfl, hst.tab, hst.fine, fun key q => (hcor key).2 (hl key) q, hbel⟩
    · intro k v w1 cnt1 hsz hleft hf hrg1 hlt hg1 hs1 hen
      obtain ⟨j, hj, hnmj, hkey, rfl⟩ := outer_some hf
      obtain rfl : k = roleS j := ba_ext (hkey.trans (roleS_bytes j).symm)
      have hst1 := hst.iter hrg.iter hg1
      have hbel1 : Below w.heap.size w w1 := hbel.grown hg1 hbel.size (fun k h => by cases h; omega)
      obtain ⟨sj, hIj, hsj⟩ := hG.hI j hj hnmj
      have hIj1 := hIj.block (hbel1.block _ hIj.lt)
      obtain ⟨DJ, hownJ, hsDJ⟩ := hIj1.len
      have HSJ : Hid (Maps.size DJ = sj) := hsDJ
      have hfn := (hcor (Pl.roleL j)).1 (hkey ▸ hleft)
      have HL1 : Hid (wr.rangeLeft bG r = cnt) := hrg.left_eq
      rw [hkey] at hrg1
      clear hsDJ hst hbel hrg hleft hf hs1 hsz
      by_cases hw : 1 < sj
      · have hIj3 : ∀ o1 o2, RM ((w1.alloc o1).alloc o2) (B j) (innerF (V j) (pm j)) sj := fun o1 o2 => hIj1.block ((Below.heap_alloc _ _ _ (by simp; have := hIj1.lt; omega)).trans (Below.heap_alloc _ _ _ hIj1.lt))
        have e2 : ∀ o1 o2, ((w1.alloc o1).alloc o2).heap.size = w1.heap.size + 1 + 1 := fun o1 o2 => by simp
        have hwi : (1 : Int) < (sj : Int) := by omega
        go_wp2_with (first
          | (at_len; refine wpList_len_own _ rfl _ 29 rfl 9 30 Ybaf.underlying29 _ (B j) sj DJ rfl hownJ ?_; rw [HSJ.out])
          | (at_range; refine wp_range _ rfl _ 29 30 rfl Ybaf.underlying29 (B j) sj _ rfl (hIj3 _ _) ?_; intro w4 hrg4 hg4 hs4))
        try go_frame
        rw [e2] at hrg4 hs4 ⊢
        obtain ⟨M, hM⟩ : ∃ M, M = w1.heap.size := ⟨_, rfl⟩
        obtain ⟨hO4, hY4, hb4⟩ := wide_made hg4
        rw [← hM] at hrg4 hO4 hY4 hb4 ⊢
        have hMN : w.heap.size < M := by have := hst1.tab.ltX; omega
        have hMge : w1.heap.size ≤ M := by omega
        have hMle : M ≤ w1.heap.size := by omega
        clear hIj3 e2 hs4 hg4 hownJ HSJ hM
        go_loopw [9] (fun _ wi => ∃ (left2 : List UInt8 → Bool) (cnt2 e : Nat) (fO : List UInt8 → Option Nat), RG wi (B j) (M + 1 + 1) (innerF (V j) (pm j)) sj left2 cnt2 ∧ wi.heap[M + 1]? = some (.cells #[.int .i64 (e : Nat), .map (some M)] 62 (0, 0)) ∧
            (∃ sO, RM wi M (fun k => (fO k).map mkM) sO ∧ sO + cnt2 ≤ sj) ∧ WM (pm j) left2 e fO ∧ Below M w1 wi)
          (fun _ wi => wi.rangeLeft (B j) (M + 1 + 1))
        case atStart => exact ⟨_, _, 0, fun _ => none, hrg4, hY4, ⟨0, hO4, by omega⟩, WM.start _ _, hb4⟩
        case round =>
          obtain ⟨left2, cnt2, e, fO, hrg2, hY, ⟨sO, hO, hsO⟩, hWM, hbM⟩ := hrel
          clear hrg4 hO4 hY4 hb4
          have hbel2 : Below w.heap.size w wr := hbel1.trans (hbM.mono (by omega))
          go_wp2_with (at_next; refine wp_next _ rfl _ rfl (B j) (M + 1 + 1) sj (innerF (V j) (pm j)) left2 cnt2 rfl hrg2 ?_ ?_)
          · intro hl2
            have hst2 := hst1.below hbM hMge
            obtain ⟨x0, x1, x2, hXlt⟩ := hst2.tab.cells
            have y0 : wr.cell? ⟨M + 1, 0, none⟩ = some (.int .i64 (e : Nat)) := by simp [World.cell?, hY]
            have y1 : wr.cell? ⟨M + 1, 1, none⟩ = some (.map (some M)) := by simp [World.cell?, hY]
            have hYlt : M + 1 < wr.heap.size := (Array.getElem?_eq_some_iff.1 hY).1
            have hnW := hst2.cW
            obtain ⟨i0, hi, hz0, hz1, hz2⟩ := info_parts Ybaf.info62
            have hownW := hst2.tab.hw
            have hnewsW := news_laidF wr [.int .i64 (e : Nat), .map (some M)] 62
            have hXobj := hst2.tab.hX
            have hvwX : ∀ g, vw.ownBlock = some g → g ≠ w.heap.size + 1 + 1 := fun g hg eq => by obtain ⟨cur, hh, _⟩ := row_obj hownW hg; rw [eq, hXobj] at hh; cases hh
            go_wp2_with fail
            go_region_law (refine step_append_own rfl (.tmp 70) (.tmp 72) 40 rfl w.heap.size 62 i0 (.agg #[.int .i64 0, .map none]) 2 16 Ybaf.underlying40 hi hz0 hz1 hz2 rfl (by decide) vw nW (wideCells nW ev ob) (by simp [Act.eval]) (by exact hownW.alloc _) ⟨wr.heap.size, 0, none⟩ 1 1 [.int .i64 (e : Nat), .map (some M)] (by simp [Act.eval]) rfl (by exact hnewsW) (by intro u hu; simp at hu; rcases hu with rfl | rfl <;> rfl) (by unfold maxLen; omega) (by omega) (by simp; omega) ?_; intro v' wa hoa hga; obtain ⟨gw, cw, rfl⟩ := owns_slice hoa (by omega); have hXa : wa.heap[w.heap.size + 1 + 1]? = some (.cells #[.map (some w.heap.size), vs, vw] 42 (0, 0)) := (hga.block _ (by simp; omega) (fun e => hvwX _ e.symm rfl)).trans ((Below.heap_alloc wr _ _ hXlt).trans hXobj); have ca : wa.cell? ⟨w.heap.size + 1 + 1, 2, none⟩ = some vw := (by simp [World.cell?, hXa]); have fa : wa.frozen? ⟨w.heap.size + 1 + 1, 2, none⟩ = false := (by simp [World.frozen?, hXa]))
            all_goals
              have hstd := hst2.below (((Below.refl wr.heap.size wr).alloc (Nat.le_refl _) (Obj.cells #[.int .i64 (e : Nat), .map (some M)] 62)).drew) (Nat.le_refl _)
              have hOd : RM (wr.alloc (Obj.cells #[.int .i64 (e : Nat), .map (some M)] 62)).drew M (fun k => (fO k).map mkM) sO := hO.block (Below.heap_alloc wr _ _ hO.lt)
              have hrgd : RG (wr.alloc (Obj.cells #[.int .i64 (e : Nat), .map (some M)] 62)).drew bG r (outerF B nm) sG (strike left (Pl.roleL j)) cnt1 :=
                (hrg1.block (hbM.block _ (by have := hrg1.rm.lt; omega)) (hbM.block _ (by have := hrg1.lt; omega))).block (Below.heap_alloc wr _ _ (by have := hrg1.rm.lt; have := hbM.size; omega)) (Below.heap_alloc wr _ _ (by have := hrg1.lt; have := hbM.size; omega))
              have hPlt : w.heap.size + 1 + 1 + 1 < w1.heap.size := by obtain ⟨_, hPx, _⟩ := hst1.rP; exact hPx.lt
              have hmkl := hWM.lt (hG.mk_lt j)
              have hst3 := hstd.wide (by omega) ⟨sO, hOd⟩ (by omega) (by omega) hmkl.1 hmkl.2 hga hoa
              have hrg3 := hrgd.block (hstd.tab.wid_map (v' := .slice (some ⟨gw, 0, none⟩) (nW + 1) cw) hga hrgd.rm.isMap) (hstd.tab.wid_iter hga hrgd.iter)
              have hbel3 : Below w.heap.size w (wa.setCell ⟨w.heap.size + 1 + 1, 2, none⟩ (.slice (some ⟨gw, 0, none⟩) (nW + 1) cw)) := ((((hbel2.alloc hbel2.size _).drew).grown hga (by have := hbel2.size; simp; omega) (fun k hk => (hownW.lt k hk).1))).setCell (by simp; omega) _
              clear hoa hga hXa ca fa hstd hOd hrgd hXobj hvwX hownW hnewsW
              generalize wa.setCell ⟨w.heap.size + 1 + 1, 2, none⟩ (.slice (some ⟨gw, 0, none⟩) (nW + 1) cw) = W3 at *
              obtain ⟨z0, z1, z2, hZlt⟩ := hst3.tab.cells
              obtain ⟨sR, hR, hsR⟩ := hst3.rR
              obtain ⟨w10, s10, hrun10, hR10, hs10, ht10⟩ := (hR.block (w' := W3.drew) rfl).put Ybaf.underlying39 (by unfold maxLen; omega) (role_size j) (mkE (0, 0, nW + 1))
              have hrun10' : (Instr.mapUpdate 39 (.map (some w.heap.size)) (.string (roleS j)) (.agg #[.int .i64 0, .int .u32 0, .int .u32 ((nW : Int) + 1)])).run Ybaf.prog W3.drew = .ok () w10 := hrun10
              rw [roleS_bytes] at hR10
              have hst10 := (hst3.below (w' := W3.drew) ((Below.refl W3.heap.size W3).drew) (Nat.le_refl _)).role ht10 hR10 hs10 hsR ⟨by have := hst3.fine.pos; omega, Nat.le_refl _, (by decide : (0 : Nat) < 2 ^ 63)⟩
              have hrg10 := hrg3.block (w' := w10) (ht10.grown.block (w := W3.drew) _ hrg3.rm.lt (fun e => by have := Option.some.inj e; have := hGm.lt; omega)) (ht10.grown.block (w := W3.drew) _ hrg3.lt (fun e => by have := Option.some.inj e; omega))
              have hbel10 : Below w.heap.size w w10 := hbel3.drew.grown ht10.grown (by show _ ≤ W3.heap.size; exact hbel3.size) (fun k hk => by cases hk; exact Nat.le_refl _)
              have hnWlt := hst3.fine.small.2
              clear hrun10 hR10 ht10 hR hst3 hrg3 hbel3
              have HCOR : Hid (Cor pm (strike left (Pl.roleL j)) (fun k => if k = Pl.roleL j then some (0, 0, nW + 1) else fR k) Rs (fun i => if i = nW then e else ev i) (fun i => if i = nW then fO else fo i)) := by
                refine Cor.step hcor (fun k hk h => by rw [if_neg hk]; exact h) (fun k q hk => ?_) (fun q => ?_)
                · rw [said_other hk]; exact said_grow hst1.fine (fun _ _ => rfl) (fun i hi => ⟨if_neg (by omega), if_neg (by omega)⟩) k q
                · rw [said_new, if_neg (by omega)]
                  show (if nW = nW then e else ev nW) ||| ((if nW = nW then fO else fo nW) q).getD 0 = _
                  rw [if_pos rfl, if_pos rfl]
                  exact hWM.done hj hl2 q
              go_wp2_with fail
              go_region
              all_goals
                go_wp2
                go_roundw
                case rel => exact ⟨_, cnt1, bound + 1 + 1, _, fP, vs, _, Rs, nW + 1, _, _, _, hrg10, by omega, hst10, HCOR.out, hbel10⟩
                case measure => rw [hrg10.left_eq, HL1.out]; exact hlt
          · intro k2 v2 w7 cnt7 hsz2 hleft2 hf2 hrg7 hlt7 hg7 hs7 hen7
            obtain ⟨kk, hkk, hpk, hkey2, rfl⟩ := inner_some hf2
            obtain rfl : k2 = resS kk := ba_ext (hkey2.trans (resS_bytes kk).symm)
            have hY7 : w7.heap[M + 1]? = some (.cells #[.int .i64 (e : Nat), .map (some M)] 62 (0, 0)) := (hg7.block _ (Array.getElem?_eq_some_iff.1 hY).1 (fun e => by have := Option.some.inj e; omega)).trans hY
            have hO7 := hO.block (hg7.block _ hO.lt (fun e => by have := Option.some.inj e; omega))
            have hbM7 : Below M w1 w7 := hbM.grown hg7 (by have := hbM.size; omega) (fun k h => by cases h; omega)
            have hbel7 : Below w.heap.size w w7 := hbel1.trans (hbM7.mono (by omega))
            have hrow := owns_block (hG.hV j kk hj hkk hpk) (fun g hg => hbel7.block g ((hG.hV j kk hj hkk hpk).lt g hg).2)
            obtain ⟨g, cap, hV, hgl, hcl⟩ := owns_perms hrow hpk
            have hlen := hG.hlen j kk
            have h63 := hG.h63 j kk
            rw [hV] at hen7 ⊢
            rw [hkey2] at hrg7
            have y0 : w7.cell? ⟨M + 1, 0, none⟩ = some (.int .i64 (e : Nat)) := by simp [World.cell?, hY7]
            have y1 : w7.cell? ⟨M + 1, 1, none⟩ = some (.map (some M)) := by simp [World.cell?, hY7]
            have yf : ∀ q, w7.frozen? ⟨M + 1, q, none⟩ = false := fun q => by simp [World.frozen?, hY7]
            have HL2 : Hid (wr.rangeLeft (B j) (M + 1 + 1) = cnt2) := hrg2.left_eq
            have hBM : B j < M := by have := hIj.lt; omega
            clear hrg2 hY hO hbM hbel2 hsz2 hf2 hs7 hrow
            by_cases hk0 : kk = 0
            · subst hk0
              have hq : ((resS 0).toList == [42]) = true := by rw [ByteArray.toList_eq, resS_bytes]; rfl
              have hRGz := hrg7.block (w' := w7.setCell ⟨M + 1, 0, none⟩ (.int .i64 (Pl.Mk (pm j 0) : Nat))) (Below.heap_setCell _ _ _ _ (by simp; omega)) (Below.heap_setCell _ _ _ _ (by simp))
              go_wp2_with (go_at_call 11; refine (mask11 _ _ g _ cap (pm j 0) w7 rfl hlen h63 hcl).mono ?_; rintro e w8 ⟨rfl, hw8⟩; subst hw8)
              go_roundw
              case rel => exact ⟨_, cnt7, _, fO, hRGz, by simp [World.setCell, Array.getElem?_modify, hY7], ⟨sO, hO7.block (Below.heap_setCell _ _ _ _ (by simp)), by omega⟩, hWM.zero, hbM7.setCell (by simp) _⟩
              case measure =>
                rw [hRGz.left_eq, HL2.out]
                exact hlt7
            · have hq : ((resS kk).toList == [42]) = false := by
                rw [ByteArray.toList_eq, resS_bytes]
                exact beq_eq_false_iff_ne.2 (fun e => hk0 (Pl.resL_inj hkk (by omega) (e : Pl.resL kk = Pl.resL 0)))
              obtain ⟨w9, s9, hrun9, hO9, hs9, ht9⟩ := hO7.put Ybaf.underlying60 (by unfold maxLen; omega) (res_size kk) (mkM (Pl.Mk (pm j kk)))
              have hrun9' : (Instr.mapUpdate 60 (.map (some M)) (.string (resS kk)) (.int .i64 (Pl.Mk (pm j kk) : Nat))).run Ybaf.prog w7 = .ok () w9 := hrun9
              have hRG9 := hrg7.block (w' := w9) (ht9.grown.block _ (by have := hrg7.rm.lt; exact this) (fun e => by have := Option.some.inj e; omega)) (ht9.grown.block _ hrg7.lt (fun e => by have := Option.some.inj e; omega))
              have hY9 : w9.heap[M + 1]? = some (.cells #[.int .i64 (e : Nat), .map (some M)] 62 (0, 0)) := (ht9.grown.block _ (Array.getElem?_eq_some_iff.1 hY7).1 (fun e => by have := Option.some.inj e; omega)).trans hY7
              have hO9' : RM w9 M (fun k => ((if k = Pl.resL kk then some (Pl.Mk (pm j kk)) else fO k : Option Nat)).map mkM) s9 := by
                have e1 : (fun k => ((if k = Pl.resL kk then some (Pl.Mk (pm j kk)) else fO k : Option Nat)).map mkM) = updF (fun k => (fO k).map mkM) (resS kk).data.toList (mkM (Pl.Mk (pm j kk))) := by
                  funext k; unfold updF; rw [resS_bytes]; split <;> rfl
                rw [e1]; exact hO9
              have hbM9 : Below M w1 w9 := hbM7.grown ht9.grown (by have := hbM7.size; omega) (fun k h => by cases h; exact Nat.le_refl _)
              clear hrun9 hO9 hO7 hY7 ht9 hbM7
              go_wp2_with (go_at_call 11; refine (mask11 _ _ g _ cap (pm j kk) w7 rfl hlen h63 hcl).mono ?_; rintro e w8 ⟨rfl, hw8⟩; subst hw8)
              go_roundw
              case rel => exact ⟨_, cnt7, e, _, hRG9, hY9, ⟨s9, hO9', by omega⟩, hWM.put hkk hk0 hpk, hbM9⟩
              case measure => rw [hRG9.left_eq, HL2.out]; exact hlt7
      · have hnw : (sj : Int) ≤ 1 := by omega
        go_wp2_with (first
          | (at_len; refine wpList_len_own _ rfl _ 29 rfl 9 30 Ybaf.underlying29 _ (B j) sj DJ rfl hownJ ?_; rw [HSJ.out])
          | (at_range; refine wp_range _ rfl _ 29 30 rfl Ybaf.underlying29 (B j) sj _ rfl hIj1 ?_; intro w4 hrg4 hg4 hs4))
        try go_frame
        have hb14 : Below w1.heap.size w1 w4 := (Below.refl _ w1).grown hg4 (Nat.le_refl _) (fun k h => by cases h)
        have hst4 := hst1.below hb14 (Nat.le_refl _)
        have hrgo4 := hrg1.block (hb14.block _ hrg1.rm.lt) (hb14.block _ hrg1.lt)
        have hbel4 : Below w.heap.size w w4 := hbel1.grown hg4 hbel1.size (fun k h => by cases h)
        obtain ⟨M, hM⟩ : ∃ M, M = w1.heap.size := ⟨_, rfl⟩
        rw [← hM] at hrg4 ⊢
        have hMr : r < M := by have := hrg1.lt; omega
        have hMN : w.heap.size ≤ M := by have := hbel1.size; omega
        have hMP : w.heap.size + 1 + 1 + 1 < M := by obtain ⟨_, hPx, _⟩ := hst1.rP; have := hPx.lt; omega
        have hBj : B j < w.heap.size := hIj.lt
        have hGl : bG < w.heap.size := hGm.lt
        clear hb14 hg4 hs4 hownJ HSJ hM hst1 hrg1 hbel1 hIj1
        go_loopw [13] (fun _ wi => ∃ (left2 : List UInt8 → Bool) (cnt2 bound' : Nat) (fR' : List UInt8 → Option (Nat × Nat × Nat)) (fP' : List UInt8 → Option Nat) (vs' : Value) (Rs' : List ByteArray),
            RG wi (B j) M (innerF (V j) (pm j)) sj left2 cnt2 ∧ RG wi bG r (outerF B nm) sG (strike left (Pl.roleL j)) cnt1 ∧ St wi w.heap.size (w.heap.size + 1 + 1) w.heap.size (w.heap.size + 1 + 1 + 1) bound' fR' fP' vs' vw Rs' nW ev ob fo ∧
            NarrowSt pm j sj cnt2 left2 (innerF (V j) (pm j)) fR fR' Rs Rs' ev fo bound bound' ∧ Below w.heap.size w wi)
          (fun _ wi => wi.rangeLeft (B j) M)
        case atStart => exact ⟨_, _, bound, fR, fP, vs, Rs, hrg4, hrgo4, hst4, ⟨fun _ _ _ => rfl, fun _ _ h => h, .inl ⟨rfl, rfl, fun _ => rfl, hfn⟩⟩, hbel4⟩
        case round =>
          obtain ⟨left2, cnt2, bound', fR', fP', vs', Rs', hrg2, hrgo, hst2, hNS, hbel2⟩ := hrel
          clear hrg4 hrgo4 hst4 hbel4
          go_wp2_with (at_next; refine wp_next _ rfl _ rfl (B j) M sj (innerF (V j) (pm j)) left2 cnt2 rfl hrg2 ?_ ?_)
          · intro hl2
            have hfin := hNS.done hj (fun k hk => Classical.byContradiction fun h => hk (hG.hk4 j k h)) hl2 hcor
            go_wp2
            go_roundw
            case rel => exact ⟨_, cnt1, bound', fR', fP', vs', vw, Rs', nW, ev, ob, fo, hrgo, by have := hfin.2; omega, hst2, hfin.1, hbel2⟩
            case measure => rw [hrgo.left_eq, HL1.out]; exact hlt
          · intro k2 v2 w7 cnt7 hsz2 hleft2 hf2 hrg7 hlt7 hg7 hs7 hen7
            obtain ⟨hN1, hN2, hN3⟩ := hNS
            rcases hN3 with ⟨hc2, hbb, hlf, hfn'⟩ | ⟨hc2, _, _⟩
            · obtain ⟨kk, hkk, hpk, hkey2, rfl⟩ := inner_some hf2
              obtain rfl : k2 = resS kk := ba_ext (hkey2.trans (resS_bytes kk).symm)
              have hc7 : cnt7 = 0 := by omega
              rw [hkey2] at hrg7
              have honly : ∀ i, i ≠ kk → pm j i = [] := fun i hi => by
                refine Classical.byContradiction fun hp => ?_
                have hi4 := hG.hk4 j i hp
                have hl7 : strike left2 (Pl.resL kk) (Pl.resL i) = true := by
                  rw [strike_other left2 (fun e => hi (Pl.resL_inj hi4 hkk e)), hlf, inner_at hi4, if_neg hp]; rfl
                have := (hrg7.key hl7).2
                omega
              have hst7 := hst2.iter hrg2.iter hg7
              have hrgo7 := hrgo.block (hg7.block _ hrgo.rm.lt (fun e => by have := Option.some.inj e; omega)) (hg7.block _ hrgo.lt (fun e => by have := Option.some.inj e; omega))
              have hbel7 : Below w.heap.size w w7 := hbel2.grown hg7 hbel2.size (fun k h => by cases h; omega)
              have hrow := owns_block (hG.hV j kk hj hkk hpk) (fun g hg => hbel7.block g ((hG.hV j kk hj hkk hpk).lt g hg).2)
              obtain ⟨g, cap, hV, hgl, hcl⟩ := owns_perms hrow hpk
              have hlen := hG.hlen j kk
              have h63 := hG.h63 j kk
              have hmk := hG.mk_lt j kk
              rw [hV] at hen7 ⊢
              have HL2 : Hid (wr.rangeLeft (B j) M = cnt2) := hrg2.left_eq
              clear hrg2 hrgo hst2 hbel2 hsz2 hf2 hs7 hrow hleft2 hg7 hlf
              obtain ⟨x0, x1, x2, hXlt⟩ := hst7.tab.cells
              have xf : ∀ q, w7.frozen? ⟨w.heap.size + 1 + 1, q, none⟩ = false := fun q => by simp [World.frozen?, hst7.tab.hX]
              obtain ⟨sP, hP, hsP⟩ := hst7.rP
              have hgetP := hP.get_ok Ybaf.underlying59 (zero58 w7) (res_size kk)
              rw [resS_bytes] at hgetP
              have hsm := hst7.fine.small.1
              cases hfp : fP' (Pl.resL kk) with
              | some p =>
                have hpl := hst7.pl _ p hfp
                have hget' : (Instr.lookup 59 (.map (some (w.heap.size + 1 + 1 + 1))) (.string (resS kk)) true).run Ybaf.prog w7 = .ok (.tuple #[.int .u32 (p : Nat), .bool true]) w7 := by rw [hfp] at hgetP; exact hgetP
                obtain ⟨sR, hR, hsR⟩ := hst7.rR
                obtain ⟨w10, s10, hrun10, hR10, hs10, ht10⟩ := hR.put Ybaf.underlying39 (by unfold maxLen; omega) (role_size j) (mkE (Pl.Mk (pm j kk), p, 0))
                have hrun10' : (Instr.mapUpdate 39 (.map (some w.heap.size)) (.string (roleS j)) (.agg #[.int .i64 (Pl.Mk (pm j kk) : Nat), .int .u32 (p : Nat), .int .u32 0])).run Ybaf.prog w7 = .ok () w10 := hrun10
                rw [roleS_bytes] at hR10
                have hst10 := hst7.role ht10 hR10 hs10 hsR ⟨hpl.1, Nat.zero_le _, hmk⟩
                have hrg10 := hrg7.block (w' := w10) (ht10.grown.block _ hrg7.rm.lt (fun e => by have := Option.some.inj e; omega)) (ht10.grown.block _ hrg7.lt (fun e => by have := Option.some.inj e; omega))
                have hrgo10 := hrgo7.block (w' := w10) (ht10.grown.block _ hrgo7.rm.lt (fun e => by have := Option.some.inj e; omega)) (ht10.grown.block _ hrgo7.lt (fun e => by have := Option.some.inj e; omega))
                have hbel10 : Below w.heap.size w w10 := hbel7.grown ht10.grown hbel7.size (fun k hk => by cases hk; exact Nat.le_refl _)
                have hNS10 : NarrowSt pm j sj 0 (strike left2 (Pl.resL kk)) (innerF (V j) (pm j)) fR (fun k => if k = Pl.roleL j then some (Pl.Mk (pm j kk), p, 0) else fR' k) Rs Rs' ev fo bound (bound' + 1) := by
                  refine ⟨fun k q hk => by rw [said_other hk]; exact hN1 k q hk, fun k hk h => (if_neg hk).trans (hN2 k hk h), .inr ⟨rfl, by omega, fun q => ?_⟩⟩
                  rw [said_new, if_pos rfl, hpl.2]
                  exact narrow_spec hj hkk honly q
                clear hrun10 hR10 ht10 hR hgetP hP hN1 hN2 hfn' honly hst7 hrg7 hrgo7 hbel7
                rw [hc7] at hrg10 hlt7
                go_wp2_with (go_at_call 11; refine (mask11 _ _ g _ cap (pm j kk) _ rfl hlen h63 hcl).mono ?_; rintro e w8 ⟨rfl, hw8⟩; subst hw8)
                go_roundw
                case rel => exact ⟨_, 0, bound' + 1, _, fP', vs', Rs', hrg10, hrgo10, hst10, hNS10, hbel10⟩
                case measure => rw [hrg10.left_eq, HL2.out]; exact hlt7
              | none =>
                have hget' : (Instr.lookup 59 (.map (some (w.heap.size + 1 + 1 + 1))) (.string (resS kk)) true).run Ybaf.prog w7 = .ok (.tuple #[.int .u32 0, .bool false]) w7 := by rw [hfp] at hgetP; exact hgetP
                obtain ⟨wp, sp, hrunp, hPp, hsp, htp⟩ := hP.put Ybaf.underlying59 (by unfold maxLen; omega) (res_size kk) (mkP Rs'.length)
                have hrunp' : (Instr.mapUpdate 59 (.map (some (w.heap.size + 1 + 1 + 1))) (.string (resS kk)) (.int .u32 (Rs'.length : Nat))).run Ybaf.prog w7 = .ok () wp := hrunp
                have hownS := hst7.tab.hs
                obtain ⟨gs, cs, hvs⟩ := owns_slice hownS hst7.fine.pos
                rw [hvs] at x1
                have hTp := hst7.tab.turned htp hst7.dPR hst7.dPo
                have hownSp := hTp.hs
                have hXp := hTp.hX
                obtain ⟨p0, p1, p2, hXplt⟩ := hTp.cells
                rw [hvs] at p1
                have hvsX : ∀ g, vs'.ownBlock = some g → g ≠ w.heap.size + 1 + 1 := fun g hg eq => by obtain ⟨cur, hh, _⟩ := row_obj hownSp hg; rw [eq, hXp] at hh; cases hh
                have hrgp := hrg7.block (w' := wp) (htp.grown.block _ hrg7.rm.lt (fun e => by have := Option.some.inj e; omega)) (htp.grown.block _ hrg7.lt (fun e => by have := Option.some.inj e; omega))
                have hrgop := hrgo7.block (w' := wp) (htp.grown.block _ hrgo7.rm.lt (fun e => by have := Option.some.inj e; omega)) (htp.grown.block _ hrgo7.lt (fun e => by have := Option.some.inj e; omega))
                have hbelp : Below w.heap.size w wp := hbel7.grown htp.grown hbel7.size (fun k hk => by cases hk; omega)
                obtain ⟨i0, hi, hz0, hz1, hz2⟩ := info_parts Ybaf.info9
                have hnewsS := news_laidF wp [.string (resS kk)] 9
                have hszp := hbelp.size
                clear hrunp hgetP hP hrg7 hrgo7 hbel7 hXlt
                rw [hc7] at hrgp hlt7
                go_wp2_with (first
                  | (go_at_call 11; refine (mask11 _ _ g _ cap (pm j kk) _ rfl hlen h63 hcl).mono ?_; rintro e w8 ⟨rfl, hw8⟩; have hw8' := hw8.symm; subst hw8')
                  | (at_builtin; refine wpList_append_own _ rfl (.tmp 126) (.tmp 128) 37 rfl w.heap.size 9 i0 (.string ByteArray.empty) 1 16 Ybaf.underlying37 hi hz0 hz1 hz2 rfl (by decide) vs' Rs'.length (Rs'.map Value.string) hvs.symm (hownSp.alloc _) ⟨wp.heap.size, 0, none⟩ 1 1 [.string (resS kk)] rfl rfl hnewsS (by intro u hu; simp at hu; subst hu; rfl) (by unfold maxLen; omega) (by omega) (by simp; omega) ?_; intro v' wa hoa hga hda; clear hda; obtain ⟨gw, cw, rfl⟩ := owns_slice hoa (by omega); have hXa : wa.heap[w.heap.size + 1 + 1]? = some (.cells #[.map (some w.heap.size), vs', vw] 42 (0, 0)) := (hga.block _ (by simp; omega) (fun e => hvsX _ e.symm rfl)).trans ((Below.heap_alloc wp _ _ hXplt).trans hXp); have ca1 : wa.cell? ⟨w.heap.size + 1 + 1, 1, none⟩ = some vs' := (by simp [World.cell?, hXa]); have fa1 : wa.frozen? ⟨w.heap.size + 1 + 1, 1, none⟩ = false := (by simp [World.frozen?, hXa]); have hTpa : Tab (wp.alloc (Obj.cells #[.string (resS kk)] 9)) w.heap.size (w.heap.size + 1 + 1) w.heap.size fR' vs' vw Rs' nW ev ob fo := hTp.below ((Below.refl wp.heap.size wp).alloc (Nat.le_refl _) _) (Nat.le_refl _); have hst3 := hst7.res (by omega) htp hPp hsp hsP hga hoa; obtain ⟨sR, hR, hsR⟩ := hst3.rR; obtain ⟨w10, s10, hrun10, hR10, hs10, ht10⟩ := hR.put Ybaf.underlying39 (by unfold maxLen; omega) (role_size j) (mkE (Pl.Mk (pm j kk), Rs'.length, 0)); have hrun10' : (Instr.mapUpdate 39 (.map (some w.heap.size)) (.string (roleS j)) (.agg #[.int .i64 (Pl.Mk (pm j kk) : Nat), .int .u32 (Rs'.length : Nat), .int .u32 0])).run Ybaf.prog (wa.setCell ⟨w.heap.size + 1 + 1, 1, none⟩ (.slice (some ⟨gw, 0, none⟩) (Rs'.length + 1) cw)) = .ok () w10 := hrun10; have z0 := hst3.tab.cells.1))
                rw [roleS_bytes] at hR10
                have hlen3 : Rs'.length < (Rs' ++ [resS kk]).length := by simp
                have hst10 := hst3.role ht10 hR10 hs10 hsR ⟨hlen3, Nat.zero_le _, hmk⟩
                have hrga := hrgp.block (Below.heap_alloc wp (Obj.cells #[.string (resS kk)] 9) _ hrgp.rm.lt) (Below.heap_alloc wp (Obj.cells #[.string (resS kk)] 9) _ hrgp.lt)
                have hrgoa := hrgop.block (Below.heap_alloc wp (Obj.cells #[.string (resS kk)] 9) _ hrgop.rm.lt) (Below.heap_alloc wp (Obj.cells #[.string (resS kk)] 9) _ hrgop.lt)
                have hrg3 := hrga.block (hTpa.res_map (v' := .slice (some ⟨gw, 0, none⟩) (Rs'.length + 1) cw) hga hrga.rm.isMap) (hTpa.res_iter hga hrga.iter)
                have hrgo3 := hrgoa.block (hTpa.res_map (v' := .slice (some ⟨gw, 0, none⟩) (Rs'.length + 1) cw) hga hrgoa.rm.isMap) (hTpa.res_iter hga hrgoa.iter)
                have hrg10 := hrg3.block (w' := w10) (ht10.grown.block _ hrg3.rm.lt (fun e => by have := Option.some.inj e; omega)) (ht10.grown.block _ hrg3.lt (fun e => by have := Option.some.inj e; omega))
                have hrgo10 := hrgo3.block (w' := w10) (ht10.grown.block _ hrgo3.rm.lt (fun e => by have := Option.some.inj e; omega)) (ht10.grown.block _ hrgo3.lt (fun e => by have := Option.some.inj e; omega))
                have hbel3 : Below w.heap.size w (wa.setCell ⟨w.heap.size + 1 + 1, 1, none⟩ (.slice (some ⟨gw, 0, none⟩) (Rs'.length + 1) cw)) := (((hbelp.alloc hbelp.size _).grown hga (by have := hbelp.size; simp; omega) (fun k hk => (hownSp.lt k hk).1))).setCell (by simp; omega) _
                have hbel10 : Below w.heap.size w w10 := hbel3.grown ht10.grown hbel3.size (fun k hk => by cases hk; exact Nat.le_refl _)
                have hNS10 : NarrowSt pm j sj 0 (strike left2 (Pl.resL kk)) (innerF (V j) (pm j)) fR (fun k => if k = Pl.roleL j then some (Pl.Mk (pm j kk), Rs'.length, 0) else fR' k) Rs (Rs' ++ [resS kk]) ev fo bound (bound' + 1 + 1) := by
                  refine ⟨fun k q hk => ?_, fun k hk h => (if_neg hk).trans (hN2 k hk h), .inr ⟨rfl, by omega, fun q => ?_⟩⟩
                  · rw [said_other hk]
                    exact (said_grow hst7.fine (fun p hp => getD_grow _ _ p hp) (fun i _ => ⟨rfl, rfl⟩) k q).trans (hN1 k q hk)
                  · rw [said_new, if_pos rfl, getD_last, resS_bytes]
                    exact narrow_spec hj hkk honly q
                refine ⟨⟨_, 0, bound' + 1 + 1, _, _, _, _, hrg10, hrgo10, hst10, hNS10, hbel10⟩, ?_⟩
                rw [hrg10.left_eq, HL2.out]; exact hlt7
            · exact absurd (hrg2.key hleft2).2 (by omega)

end Go.Proofs.YbulkdzqsFmt

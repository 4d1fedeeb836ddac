/-
  '(*lockHolds).take' by a contract.
-/
import Derived.Test.YbulkbhziRows
import Derived.Test.YbulkbhziTakenParts
import Derived.WalkKit
import Derived.ProofKit
import Derived.OpenShut
import Derived.Below
import Derived.WalkSpells
import Derived.WalkLawsBesides
import Derived.Deep.QuietTactic
import Derived.BigQuiet
import Derived.WalkSmall
import Derived.Maps.OwnOps
import Derived.Deep.LoopGhost
import Derived.Deep.RegionHeld3
import Derived.Deep.AppendLies
namespace Go.Proofs.Ybulkbhzi.lawS2946CTaken
open Go.ChangeShapes Go.WideShapes Go.ChangeAt Go.RowKit Go.Proofs.Ybulkbhzi.HeldParts Go.Proofs.Ybulkbhzi.TakenParts
set_option linter.unusedVariables false

theorem hide {p : Prop} (h : p) : Hid p := h

theorem info64 : (Yba.prog.info? 64).map (fun i => (i.zero, i.size, i.bytes)) = some (some (.slice none 0 0), 1, 24) := by kernel_rfl
theorem info67 : (Yba.prog.info? 67).map (fun i => (i.zero, i.size, i.bytes)) = some (some (.pointer none), 1, 8) := by kernel_rfl

set_option maxRecDepth 100000 in
set_option maxHeartbeats 4000000 in
theorem take_any (w0 w : World) (k L g p o : Nat) (kd : Int) (cur : Array Value) (ofv wm rm : Value) (V : Nat → Value) (ps : Nat → List Nat) (hI : Inv w0 w k L ofv wm rm V ps) (hk : k ≤ 10000) (hg : g < 5) (ho : o < 4)
    (hp : w.heap[p]? = some (Obj.cells cur 75 (0, 0))) (c3 : cur[3]? = some (.int .u8 kd)) (c6 : cur[6]? = some (.int .u64 (o : Int))) (c8 : cur[8]? = some (.int .i64 (g : Int))) :
    Calls Yba.prog 10 #[.pointer (some ⟨w0.heap.size, 0, none⟩), .pointer (some ⟨p, 0, none⟩)] w fun e w' => ∃ (v : Value) (L' : Nat) (ofv' wm' rm' : Value) (V' : Nat → Value) (ps' : Nat → List Nat), e = .returned v ∧
      Inv w0 w' (k + 2) L' ofv' wm' rm' V' ps' ∧ ps' g = ps g ++ [p] ∧ ∀ τ, τ < 10 → τ ≠ g → ps' τ = ps τ := by
  obtain ⟨i64, hi64, hz64, hs64, hb64⟩ := info_parts info64
  obtain ⟨i67, hi67, hz67, hs67, hb67⟩ := info_parts info67
  have hmm := @run_makeMap Yba.prog
  have qm : ∀ (w : World) (r : Option Nat), (binOp .eql 62 (.map r) (.map none)).run Yba.prog w = .ok (.bool r.isNone) w := fun w r => run_eql_map_nil w _ _ _ r Yba.underlying62
  have h5 := hI.five
  have hsz := hI.size
  have hsz1 : w0.heap.size < w.heap.size := by omega
  have hsz2 : w0.heap.size < w.heap.size + 1 := by omega
  have HI : Hid (Inv w0 w k L ofv wm rm V ps) := hI
  have HP : Hid (w.heap[p]? = some (Obj.cells cur 75 (0, 0))) := hp
  have HC : Hid (cur[3]? = some (.int .u8 kd) ∧ cur[6]? = some (.int .u64 (o : Int)) ∧ cur[8]? = some (.int .i64 (g : Int))) := ⟨c3, c6, c8⟩
  have hmaps := hI.maps
  clear hI hp c3 c6 c8
  rcases hmaps with ⟨rfl, rfl⟩ | ⟨m1, m2, rfl, rfl, hm⟩
  all_goals first
    | (obtain ⟨q0, q1, q2, q3, q4⟩ := HI.out.cells
       clear hm q4
       go_enter Yba.func10, Yba.ntmps10
       go_wp2
       have HA : Hid (Inv w0 w k L ofv (.map (some m1)) (.map (some m2)) V ps) := HI
       have HAP : Hid (w.heap[p]? = some (Obj.cells cur 75 (0, 0))) := HP
       clear HI HP hsz hsz1 hsz2 q0 q1 q2 q3)
    | (obtain ⟨q0, q1, q2, q3, q4⟩ := HI.out.cells
       have q41 := q4 1
       have q42 := q4 2
       clear q4
       go_enter Yba.func10, Yba.ntmps10
       go_wp2
       have hA := HI.out.made
       have hA75 := HI.out.made75 (.map (some w.heap.size)) (.map (some (w.heap.size + 1))) p cur HP.out
       have hw : (((w.alloc (.map #[] 0)).alloc (.map #[] 0)).setCell ⟨w0.heap.size, 1, none⟩ (.map (some w.heap.size))).setCell ⟨w0.heap.size, 2, none⟩ (.map (some (w.heap.size + 1))) =
         (((w.setCell ⟨w0.heap.size, 1, none⟩ (.map (some w.heap.size))).setCell ⟨w0.heap.size, 2, none⟩ (.map (some (w.heap.size + 1)))).alloc (.map #[] 0)).alloc (.map #[] 0) := by
         rw [World.setCell_alloc_past, World.setCell_alloc_past, World.setCell_alloc_past, World.setCell_alloc_past] <;> first | omega | (simp; omega)
       rw [hw] at hA hA75
       clear hw q0 q1 q2 q3 q41 q42 HI HP hsz hsz1 hsz2
       generalize w.heap.size = m1 at *
       generalize m1 + 1 = m2 at *
       generalize ((((w.setCell ⟨w0.heap.size, 1, none⟩ (.map (some m1))).setCell ⟨w0.heap.size, 2, none⟩ (.map (some m2))).alloc (.map #[] 0)).alloc (.map #[] 0)) = wA at *
       have HA : Hid (Inv w0 wA k L ofv (.map (some m1)) (.map (some m2)) V ps) := hA
       have HAP : Hid (wA.heap[p]? = some (Obj.cells cur 75 (0, 0))) := hA75
       clear hA hA75)
  all_goals
    go_loopg [28] (6 - L) (fun n s28 wr => ∃ (L' : Nat) (ofv' : Value), n + L' = 6 ∧ Inv w0 wr k L' ofv' (.map (some m1)) (.map (some m2)) V ps ∧ wr.heap[p]? = some (Obj.cells cur 75 (0, 0)))
    case atStart => exact ⟨L, ofv, by omega, HA.out, HAP.out⟩
    case round =>
      obtain ⟨L', ofv', hn, hJ, hpJ⟩ := hrel
      have hL5 := hJ.five
      obtain ⟨av, cv, rfl, hav, hcv⟩ := ownsRow_form hJ.of
      obtain ⟨q0, q1, q2, q3, q4⟩ := hJ.cells
      have q40 := q4 0
      have q8 := (hold_cell hpJ 8).trans HC.out.2.2
      have hbb := lt_of_block hJ.lock
      have hJs := hJ.size
      have HJ : Hid (Inv w0 wr k L' (.slice av L' cv) (.map (some m1)) (.map (some m2)) V ps) := hJ
      have HPJ : Hid (wr.heap[p]? = some (Obj.cells cur 75 (0, 0))) := hpJ
      clear hJ hpJ q4
      unfold maxLen at hcv
      by_cases hLg : L' ≤ g
      · have hdL : decide ((L' : Int) ≤ (g : Int)) = true := by simp; omega
        go_wp2_with fail
        go_quiet (fail)
        go_wp2_with (at_builtin; refine wpList_append_lies _ rfl _ _ 61 rfl (w0.heap.size + 2) 64 i64 (.slice none 0 0) 1 24 Yba.underlying61 hi64 hz64 hs64 hb64 rfl (by omega) (.slice av L' cv) L' _ rfl ((HJ.out.later (grown_drewN wr nq none)).of.alloc _) ⟨wr.heap.size, 0, none⟩ 1 1 [.slice none 0 0] rfl rfl ?d1 ?d2 (by omega) (by unfold maxLen; omega) (by omega) ?d5 (wr.heap.size + 1) ?d6 ?_)
        case d1 => exact cell_one_new _ _ _
        case d2 => intro u hu; simp at hu; subst hu; rfl
        case d5 => simp; omega
        case d6 => simp
        intro gn cap w1 hown hgrow hat hlt
        have hJ1 := HJ.out.later (grown_drewN wr nq none)
        have hlk := hJ1.lock1 hgrow
        have hc1 := four_cell hlk
        have hf1 := four_free hlk 0
        have hR := hJ1.extend (by omega) hown hgrow
        have hRp := hJ1.extend75 hgrow (.slice (some ⟨gn, 0, none⟩) (L' + 1) cap) p cur HPJ.out
        have HR : Hid (Inv w0 (w1.setCell ⟨w0.heap.size, 0, none⟩ (.slice (some ⟨gn, 0, none⟩) (L' + 1) cap)) k (L' + 1) (.slice (some ⟨gn, 0, none⟩) (L' + 1) cap) (.map (some m1)) (.map (some m2)) V ps) := hR
        have HRp : Hid ((w1.setCell ⟨w0.heap.size, 0, none⟩ (.slice (some ⟨gn, 0, none⟩) (L' + 1) cap)).heap[p]? = some (Obj.cells cur 75 (0, 0))) := hRp
        clear hR hRp hlk hJ1 hown hgrow hat hlt q0 q1 q2 q3 q40 q8
        go_wp2
        go_roundg (5 - L')
        case measure => omega
        case rel => exact ⟨L' + 1, _, by omega, HR.out, HRp.out⟩
      · have hdL : decide ((L' : Int) ≤ (g : Int)) = false := by simp; omega
        obtain ⟨gv, cv', hgv, _, hgvs, _⟩ := ownsRow_some HJ.out.of (by omega)
        simp only [Value.slice.injEq] at hgv
        obtain ⟨rfl, _, rfl⟩ := hgv
        go_wp2_with fail
        go_quiet (fail)
        go_wp2_with fail
        have hX := HJ.out.later (grown_drewN wr nq none)
        have hpX : (wr.drewN nq).heap[p]? = some (Obj.cells cur 75 (0, 0)) := HPJ.out
        clear q0 q1 q2 q3 q40 q8 hbb hJs HJ HPJ hgvs hdL
        generalize wr.drewN nq = wx at hX hpX ⊢
        obtain ⟨q0, q1, q2, q3, q4⟩ := hX.cells
        have q8 := (hold_cell hpX 8).trans HC.out.2.2
        have qg := hX.ofCell (g := g) (by omega)
        obtain ⟨aw, cw, hVg, hnw, hcw⟩ := ownsRow_form (hX.rows.own g)
        rw [hVg] at qg
        have hgi : (g : Int) < (L' : Int) := by omega
        have HX : Hid (Inv w0 wx k L' (.slice (some ⟨gv, 0, none⟩) L' cv) (.map (some m1)) (.map (some m2)) V ps) := hX
        have HPX : Hid (wx.heap[p]? = some (Obj.cells cur 75 (0, 0))) := hpX
        have HVG : Hid (V g = .slice aw (ps g).length cw) := hVg
        unfold maxLen at hcw
        clear hX hpX hVg q4
        go_quiet (fail)
        go_wp2_with fail
        have hY := HX.out.later (grown_drewN wx nq none)
        have hpY : (wx.drewN nq).heap[p]? = some (Obj.cells cur 75 (0, 0)) := HPX.out
        clear q0 q1 q2 q3 q8 qg HX HPX
        generalize wx.drewN nq = wy at hY hpY ⊢
        obtain ⟨q0, q1, q2, q3, q4⟩ := hY.cells
        have q8 := (hold_cell hpY 8).trans HC.out.2.2
        have qg := hY.ofCell (g := g) (by omega)
        have qf := hY.of.frozenAt g
        rw [HVG.out] at qg
        have hown0 := hY.rows.own g
        rw [HVG.out] at hown0
        have hlen := hY.rows.few g
        have hYs := hY.size
        have lB := lt_of_block hY.lock
        have lp := lt_of_block hpY
        have lgv : gv < wy.heap.size := World.block_lt_of_cell? wy _ qg
        have aB : (Value.slice aw (ps g).length cw).ownBlock ≠ some w0.heap.size := fun e => by have := (hown0.lt _ e).1; omega
        have ap : (Value.slice aw (ps g).length cw).ownBlock ≠ some p := fun e => by
          obtain ⟨c, hc⟩ := ownsRow_block hown0 _ e
          rw [hpY] at hc
          simp at hc
        have agv : (Value.slice aw (ps g).length cw).ownBlock ≠ some gv := fun e => by
          obtain ⟨c, hc⟩ := ownsRow_block hown0 _ e
          obtain ⟨c', hc'⟩ := ownsRow_block hY.of gv rfl
          rw [hc'] at hc
          simp at hc
        have HY : Hid (Inv w0 wy k L' (.slice (some ⟨gv, 0, none⟩) L' cv) (.map (some m1)) (.map (some m2)) V ps) := hY
        have HPY : Hid (wy.heap[p]? = some (Obj.cells cur 75 (0, 0))) := hpY
        have HO0 : Hid (wy.ownsRow (w0.heap.size + 2) 67 1 (.slice aw (ps g).length cw) (ps g).length ((ps g).map ptr)) := hown0
        have HAB : Hid ((Value.slice aw (ps g).length cw).ownBlock ≠ some w0.heap.size) := aB
        have HAP : Hid ((Value.slice aw (ps g).length cw).ownBlock ≠ some p) := ap
        have HAG : Hid ((Value.slice aw (ps g).length cw).ownBlock ≠ some gv) := agv
        have HNP : Hid (p ≠ gv) := by
          rintro rfl
          obtain ⟨c', hc'⟩ := ownsRow_block hY.of _ rfl
          rw [hpY] at hc'
          simp at hc'
        have hgv2 : w0.heap.size + 2 ≤ gv := (hY.of.lt gv rfl).1
        clear hY hpY q4 hown0 aB ap agv
        have n1 : w0.heap.size ≠ gv := by omega
        have n2 : p ≠ gv := HNP.out
        go_region_held3 (fun w' => w'.cell? ⟨w0.heap.size, 0, none⟩ = some (.slice (some ⟨gv, 0, none⟩) L' cv) ∧ w'.cell? ⟨p, 8, none⟩ = some (.int .i64 (g : Int)))
          (first
            | (go_keep; done)
            | (go_split_ands
               refine ⟨?_, ?_⟩
               · (rw [hgrow.cell_far _ (by simp; omega) (Ne.symm HAB.out)]; assumption)
               · (rw [hgrow.cell_far _ (by simp; omega) (Ne.symm HAP.out)]; assumption))
            | (go_split_ands
               refine ⟨?_, ?_⟩
               · (rw [World.cell?_setCell_far _ _ _ _ (fun e => n1 e.symm)]; assumption)
               · (rw [World.cell?_setCell_far _ _ _ _ (fun e => n2 e.symm)]; assumption)))
          ((refine step_append_lies _ (by rfl) _ _ _ (by rfl) (w0.heap.size + 2) 67 i67 _ 1 8 Yba.underlying64 hi67 hz67 hs67 hb67 rfl (by omega) (.slice aw (ps g).length cw) (ps g).length ((ps g).map ptr) (by rfl) ((HO0.out.alloc _).drew) ⟨wy.heap.size, 0, none⟩ 1 1 [ptr p] (by rfl) (by rfl) (World.news_of_block (cs := #[ptr p]) (t := 67) (fr := (0, 0)) (heap_alloc_new wy _)) (by simp [Value.oneCell', ptr]) (by omega) (by unfold maxLen; omega) (by omega) (by simp; omega) (wy.heap.size + 1) (by simp) ?_; intro gn cap w1 hown1 hgrow hat hlt; have hcg : w1.cell? ⟨gv, g, none⟩ = some (.slice aw (ps g).length cw) := (hgrow.cell_far ⟨gv, g, none⟩ (by simp; omega) (Ne.symm HAG.out)).trans (cell_alloc_drew lgv qg _); have hfg : w1.frozen? ⟨gv, g, none⟩ = false := (hgrow.frozen_far ⟨gv, g, none⟩ (by simp; omega) (Ne.symm HAG.out)).trans (frozen_alloc_drew lgv qf _)))
        have hgrow' : (wy.alloc (Obj.cells #[Value.pointer (some ⟨p, 0, none⟩)] 67)).grownBy w1 (V g).ownBlock := by rw [HVG.out]; exact ⟨hgrow.os, hgrow.tape, hgrow.output, hgrow.size, hgrow.block⟩
        have hZ := HY.out.pushOf (by omega) HPY.out HC.out.2.2 hown1 hgrow' (by rw [HVG.out]; exact hat)
        have hpZ := HY.out.pushOf75 (g := g) g hgrow' (.slice (some ⟨gn, 0, none⟩) ((ps g).length + 1) cap) p cur HPY.out
        have e1 : upd ps g (ps g ++ [p]) g = ps g ++ [p] := upd_same _ _ _
        have e2 : ∀ τ, τ ≠ g → upd ps g (ps g ++ [p]) τ = ps τ := fun τ hτ => upd_other _ _ hτ
        clear hgrow' hgrow hown1 hat hcg hfg q0 q1 q2 q3 q8 qg qf HY HPY HO0 HAB HAP HAG HNP n1 n2
        generalize upd ps g (ps g ++ [p]) = ps2 at hZ e1 e2
        generalize upd V g (.slice (some ⟨gn, 0, none⟩) ((ps g).length + 1) cap) = V2 at hZ
        generalize w1.setCell ⟨gv, g, none⟩ (.slice (some ⟨gn, 0, none⟩) ((ps g).length + 1) cap) = wz at *
        have HE : Hid (ps2 g = ps g ++ [p] ∧ ∀ τ, τ ≠ g → ps2 τ = ps τ) := ⟨e1, e2⟩
        have HZ : Hid (Inv w0 wz (k + 1) L' (.slice (some ⟨gv, 0, none⟩) L' cv) (.map (some m1)) (.map (some m2)) V2 ps2) := hZ
        have HPZ : Hid (wz.heap[p]? = some (Obj.cells cur 75 (0, 0))) := hpZ
        obtain ⟨q0, q1, q2, q3, q4⟩ := hZ.cells
        have p3 := (hold_cell hpZ 3).trans HC.out.1
        have p6 := (hold_cell hpZ 6).trans HC.out.2.1
        clear hZ hpZ e1 e2 q4
        have wfo : Hid ((Lit.int .u64 (o : Int)).wf = true) := WalkArith.wf_u64 (by omega)
        have hm1l : k + 1 < maxLen := by unfold maxLen; omega
        by_cases hkd : (kd == 14) = true
        · obtain ⟨w2, hrun, hI2, h75⟩ := (HZ.out.later (grown_drew wz none)).wstore hm1l (o : Int) wfo.out (.pointer (some ⟨p, 0, none⟩))
          have s1 := hI2.cells.2.1
          have s2 := (hold_cell (h75 p cur HPZ.out) 6).trans HC.out.2.1
          have HI2 : Hid (Inv w0 w2 (k + 2) L' (.slice (some ⟨gv, 0, none⟩) L' cv) (.map (some m1)) (.map (some m2)) V2 ps2) := hI2
          clear hI2 h75
          go_wp2_with fail
          go_region_held3 (fun w' => w'.cell? ⟨w0.heap.size, 1, none⟩ = some (.map (some m1)) ∧ w'.cell? ⟨p, 6, none⟩ = some (.int .u64 (o : Int)))
            (go_keep) (fail)
          go_wp2
          go_ret
          exact ⟨_, L', _, _, _, V2, ps2, rfl, HI2.out, HE.out.1, fun τ _ hτ => HE.out.2 τ hτ⟩
        · rw [Bool.not_eq_true] at hkd
          go_wp2_with fail
          have hZd := HZ.out.later (grown_drew wz none)
          obtain ⟨u, us, hlook, hu, hus, hut⟩ := hZd.rlook o wfo.out
          obtain ⟨au, cu, rfl, hcu, hcu2⟩ := ownsRow_form hu
          have hl0 := hlook wz.drew rfl
          have lB := lt_of_block HZ.out.lock
          have lp := lt_of_block HPZ.out
          have lm2 : m2 < wz.heap.size := by
            rcases HZ.out.maps with ⟨e, _⟩ | ⟨_, x2, _, e2, _, h2, _⟩
            · simp at e
            · simp at e2
              subst e2
              exact h2.lt
          have hl1 := hlook (wz.alloc (Obj.cells #[Value.pointer (some ⟨p, 0, none⟩)] 67)).drew (Below.heap_alloc wz _ m2 lm2)
          have hzs := HZ.out.size
          have HAB : Hid ((Value.slice au us.length cu).ownBlock ≠ some w0.heap.size) := fun e => by have := (hu.lt _ e).1; omega
          have HAP : Hid ((Value.slice au us.length cu).ownBlock ≠ some p) := fun e => by
            obtain ⟨c, hc⟩ := ownsRow_block hu _ e
            have hx : wz.drew.heap[p]? = some (Obj.cells cur 75 (0, 0)) := HPZ.out
            rw [hx] at hc
            simp at hc
          have HZD : Hid (Inv w0 wz.drew (k + 1) L' (.slice (some ⟨gv, 0, none⟩) L' cv) (.map (some m1)) (.map (some m2)) V2 ps2) := hZd
          have HU : Hid (wz.drew.ownsRow (w0.heap.size + 2) 67 1 (.slice au us.length cu) us.length (us.map ptr)) := hu
          have HUT : Hid (∀ τ b, τ ≠ 10 + o → (Value.slice au us.length cu).ownBlock = some b → (V2 τ).ownBlock ≠ some b) := hut
          clear hlook hZd hu hut
          go_region_held3 (fun w' => w'.cell? ⟨w0.heap.size, 2, none⟩ = some (.map (some m2)) ∧ w'.cell? ⟨p, 6, none⟩ = some (.int .u64 (o : Int)))
            (first
              | (go_keep; done)
              | (go_split_ands
                 refine ⟨?_, ?_⟩
                 · (rw [hgrow.cell_far _ (by simp; omega) (Ne.symm HAB.out)]; assumption)
                 · (rw [hgrow.cell_far _ (by simp; omega) (Ne.symm HAP.out)]; assumption)))
            ((refine step_append_lies _ (by rfl) _ _ _ (by rfl) (w0.heap.size + 2) 67 i67 _ 1 8 Yba.underlying64 hi67 hz67 hs67 hb67 rfl (by omega) (.slice au us.length cu) us.length (us.map ptr) (by rfl) (HU.out.alloc _) ⟨wz.heap.size, 0, none⟩ 1 1 [ptr p] (by rfl) (by rfl) (World.news_of_block (cs := #[ptr p]) (t := 67) (fr := (0, 0)) (heap_alloc_new wz _)) (by simp [Value.oneCell', ptr]) (by omega) (by unfold maxLen; omega) (by omega) (by simp; omega) (wz.heap.size + 1) (by simp) ?_; intro gm cap2 w3 hown1 hgrow hat hlt; obtain ⟨w2, hrun, hI2, h75⟩ := HZD.out.pushReader (ob := Obj.cells #[Value.pointer (some ⟨p, 0, none⟩)] 67) hm1l wfo.out HU.out hus HUT.out hown1 ⟨hgrow.os, hgrow.tape, hgrow.output, hgrow.size, hgrow.block⟩ hat; have s1 := hI2.cells.2.2.1; have s2 := (hold_cell (h75 p cur HPZ.out) 6).trans HC.out.2.1; have HI2 := hide hI2; clear hI2 h75 hown1 hat))
          all_goals
            go_wp2
            go_ret
            refine ⟨_, L', _, _, _, _, _, rfl, HI2.out, ?_, fun τ h10 hτ => ?_⟩
            · rw [upd_other _ _ (by omega)]
              exact HE.out.1
            · rw [upd_other _ _ (by omega)]
              exact HE.out.2 τ hτ

end Go.Proofs.Ybulkbhzi.lawS2946CTaken

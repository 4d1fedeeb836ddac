/-
  '(*graphBuilder).join' by a contract.
-/
import Derived.Test.YbulkbiakRows
import Derived.Test.YbulkbiakJoinParts
import Derived.WalkKit
import Derived.ProofKit
import Derived.OpenShut
import Derived.Below
import Derived.WalkSpells
import Derived.WalkLawsBesides
import Derived.Deep.QuietTactic
import Derived.BigQuiet
import Derived.WalkSmall
import Derived.Deep.RegionHeld3
import Derived.Deep.AppendLies
namespace Go.Proofs.Ybulkbiak.lawS2948CJoin
open Go.ChangeShapes Go.WideShapes Go.ChangeAt Go.RowKit Go.Proofs.Ybulkbiak.JoinParts
set_option linter.unusedVariables false

theorem info21 : (Yba.prog.info? 21).map (fun i => (i.zero, i.size, i.bytes)) = some (some (.int .i32 0), 1, 4) := by kernel_rfl

/-- Cells that the walk reads. -/
theorem JS_cells {w : World} {B b0 b1 b5 b6 n : Nat} {bin al : Nat → Int} {tv : Value} {gid com : Int} {txs : List Int} (h : JS w B b0 b1 b5 b6 n bin al tv gid com txs) :
    w.cell? ⟨b5, 4, none⟩ = some (.slice (some ⟨b0, 0, none⟩) n n) ∧ w.cell? ⟨b5, 5, none⟩ = some (.slice (some ⟨b1, 0, none⟩) n n) ∧ w.cell? ⟨b6, 0, none⟩ = some (.int .i32 gid) ∧ w.cell? ⟨b6, 2, none⟩ = some tv ∧ w.cell? ⟨b6, 3, none⟩ = some (.int .i64 com) ∧
    ∀ o, w.frozen? ⟨b6, o, none⟩ = false := by
  refine ⟨?_, ?_, ?_, ?_, ?_, fun o => ?_⟩ <;> simp [World.cell?, World.frozen?, h.bb, h.gg]

set_option maxRecDepth 100000 in
set_option maxHeartbeats 4000000 in
theorem join_same (B b0 b1 b5 b6 n t : Nat) (bin al : Nat → Int) (tv : Value) (gid com prev : Int) (txs : List Int) (w : World) (h : JS w B b0 b1 b5 b6 n bin al tv gid com txs) (ht : t < n) (hn : n ≤ 1024) (he : (bin t == gid) = true) :
    Calls Yba.prog 4 #[.pointer (some ⟨b5, 0, none⟩), .pointer (some ⟨b6, 0, none⟩), .int .i32 prev, .int .i32 (t : Int)] w fun e w' => e = .returned (.tuple #[]) ∧ ∃ q, w' = w.drewN q := by
  obtain ⟨q1, q2, q3, q4, q5, q6⟩ := JS_cells h
  have r0 := h.r0.cell ht
  have hti : (t : Int) < (n : Int) := by omega
  clear h q6
  go_enter Yba.func4, Yba.ntmps4
  go_wp2_with fail
  go_quiet (fail)
  go_wp2
  refine bodyPost_ret (results_none rfl _ _ _) rfl ?_
  exact ⟨rfl, _, rfl⟩

/-- The end of 'join' where the transaction is new to the group: in[t] and txs. -/
def Joined (w w' : World) (B b0 b1 b5 b6 n t : Nat) (bin al : Nat → Int) (tv : Value) (gid com : Int) (txs : List Int) : Prop :=
  ∃ tv', JS w' B b0 b1 b5 b6 n (upd bin t gid) al tv' gid com (txs ++ [(t : Int)]) ∧ Only w w' b0 b1 b6 tv ∧ Below B w w'

set_option maxRecDepth 100000 in
set_option maxHeartbeats 4000000 in
theorem join_miss (B b0 b1 b5 b6 n t : Nat) (bin al : Nat → Int) (tv : Value) (gid com prev : Int) (txs : List Int) (w : World) (h : JS w B b0 b1 b5 b6 n bin al tv gid com txs) (ht : t < n) (hn : n ≤ 1024) (hl : txs.length ≤ 1024) (he : (bin t == gid) = false) (hp : (bin t == prev) = false) :
    Calls Yba.prog 4 #[.pointer (some ⟨b5, 0, none⟩), .pointer (some ⟨b6, 0, none⟩), .int .i32 prev, .int .i32 (t : Int)] w fun e w' => e = .returned (.tuple #[]) ∧ Joined w w' B b0 b1 b5 b6 n t bin al tv gid com txs := by
  obtain ⟨i21, hi21, hz21, hs21, hb21⟩ := info_parts info21
  have H := hide h
  obtain ⟨q1, q2, q3, q4, q5, q6⟩ := JS_cells h
  have r0 := h.r0.cell ht
  have hti : (t : Int) < (n : Int) := by omega
  clear h q6
  go_enter Yba.func4, Yba.ntmps4
  go_wp2_with fail
  go_quiet (fail)
  go_wp2_with fail
  have hX := H.out.later (grown_drewN w nq none)
  have f0 := hX.r0.frozen t
  have n1 := hX.n05
  have n2 := hX.n06
  have oX : Only w (w.drewN nq) b0 b1 b6 tv := Only.grown (grown_drewN w nq none) (by simp)
  have bX : Below B w (w.drewN nq) := below_drewN (Below.refl _ _) _
  have HX := hide hX
  have OX := hide oX
  have BX := hide bX
  clear hX oX bX H
  generalize w.drewN nq = wx at *
  obtain ⟨q1, q2, q3, q4, q5, q6⟩ := JS_cells HX.out
  have r0 := HX.out.r0.cell ht
  clear q6
  go_region_held3 (fun w' => w'.cell? ⟨b5, 4, none⟩ = some (.slice (some ⟨b0, 0, none⟩) n n) ∧ w'.cell? ⟨b6, 0, none⟩ = some (.int .i32 gid))
    (first | (go_keep; done) | exact ⟨(World.cell?_setCell_far wx ⟨b0, t, none⟩ ⟨b5, 4, none⟩ _ (fun e => n1 e.symm)).trans q1, (World.cell?_setCell_far wx ⟨b0, t, none⟩ ⟨b6, 0, none⟩ _ (fun e => n2 e.symm)).trans q3⟩) (fail)
  have hY := (HX.out.setIn t gid).later (grown_drew _ none)
  have oY : Only w (wx.setCell ⟨b0, t, none⟩ (.int .i32 gid)).drew b0 b1 b6 tv := OX.out.trans ((Only.grown (grown_setCell wx b0 t (.int .i32 gid)) (fun b hb => by simp at hb; exact .inl hb.symm)).trans (Only.grown (grown_drew _ none) (by simp)))
  have bY : Below B w (wx.setCell ⟨b0, t, none⟩ (.int .i32 gid)).drew := (BX.out.setCell (p := ⟨b0, t, none⟩) HX.out.lo.1 _).drew
  have HY := hide hY
  have OY := hide oY
  have BY := hide bY
  clear hY oY bY HX OX BX q1 q2 q3 q4 q5 r0
  generalize (wx.setCell ⟨b0, t, none⟩ (.int .i32 gid)).drew = wy at *
  obtain ⟨q1, q2, q3, q4, q5, q6⟩ := JS_cells HY.out
  have q62 := q6 2
  have hl6 := lt_of_block HY.out.gg
  have hlo := HY.out.lo.2.2.2
  have h6t := HY.out.nt6
  obtain ⟨av, cv, hform⟩ : ∃ av cv, tv = .slice av txs.length cv := by
    rcases HY.out.tx.2 with ⟨h1, h2⟩ | ⟨g, cap, cur, h1, _⟩
    · exact ⟨none, 0, by rw [h1, h2]⟩
    · exact ⟨_, cap, h1⟩
  subst hform
  have HT := hide h6t
  clear q6 h6t
  go_wp2_with (at_builtin; refine wpList_append_lies _ rfl _ _ 22 rfl B 21 i21 (.int .i32 0) 1 4 Yba.underlying22 hi21 hz21 hs21 hb21 rfl (by omega) (.slice av txs.length cv) txs.length _ rfl (HY.out.tx.alloc _) ⟨wy.heap.size, 0, none⟩ 1 1 [.int .i32 (t : Int)] rfl rfl (by exact cell_one_new _ _ _) (by simp [Value.oneCell']) (by omega) (by unfold maxLen; omega) (by omega) (by simp; omega) (wy.heap.size + 1) (by simp) ?_)
  intro gn cap w1 hown hgrow hat hlt
  obtain ⟨hJ, oJ, g6⟩ := HY.out.push hown hgrow hat
  have bJ := HY.out.below BY.out hgrow (.slice (some ⟨gn, 0, none⟩) (txs.length + 1) cap)
  have c62 : w1.cell? ⟨b6, 2, none⟩ = some (.slice av txs.length cv) := by simp [World.cell?, g6]
  have f62 : w1.frozen? ⟨b6, 2, none⟩ = false := by simp [World.frozen?, g6]
  have HJ := hide hJ
  have OJ := hide (OY.out.trans oJ)
  have BJ := hide bJ
  clear hJ oJ bJ g6 hown hgrow hat q1 q2 q3 q4 q5 q62
  go_wp2
  go_end0
  exact ⟨rfl, _, HJ.out, OJ.out, BJ.out⟩

set_option maxRecDepth 100000 in
set_option maxHeartbeats 4000000 in
theorem join_hit (B b0 b1 b5 b6 n t : Nat) (bin al : Nat → Int) (tv : Value) (gid com prev : Int) (txs : List Int) (w : World) (h : JS w B b0 b1 b5 b6 n bin al tv gid com txs) (ht : t < n) (hn : n ≤ 1024) (hl : txs.length ≤ 1024) (he : (bin t == gid) = false) (hp : (bin t == prev) = true) :
    Calls Yba.prog 4 #[.pointer (some ⟨b5, 0, none⟩), .pointer (some ⟨b6, 0, none⟩), .int .i32 prev, .int .i32 (t : Int)] w fun e w' => e = .returned (.tuple #[]) ∧ Joined w w' B b0 b1 b5 b6 n t bin (upd al t gid) tv gid (wrap64 (com + 1)) txs := by
  obtain ⟨i21, hi21, hz21, hs21, hb21⟩ := info_parts info21
  have H := hide h
  obtain ⟨q1, q2, q3, q4, q5, q6⟩ := JS_cells h
  have r0 := h.r0.cell ht
  have hti : (t : Int) < (n : Int) := by omega
  clear h q6
  go_enter Yba.func4, Yba.ntmps4
  go_wp2_with fail
  go_quiet (fail)
  go_wp2_with fail
  have hX := H.out.later (grown_drewN w nq none)
  have f0 := hX.r0.frozen t
  have n1 := hX.n05
  have n2 := hX.n06
  have oX : Only w (w.drewN nq) b0 b1 b6 tv := Only.grown (grown_drewN w nq none) (by simp)
  have bX : Below B w (w.drewN nq) := below_drewN (Below.refl _ _) _
  have HX := hide hX
  have OX := hide oX
  have BX := hide bX
  clear hX oX bX H
  generalize w.drewN nq = wx at *
  obtain ⟨q1, q2, q3, q4, q5, q6⟩ := JS_cells HX.out
  have r0 := HX.out.r0.cell ht
  clear q6
  have f1 := HX.out.r1.frozen t
  have r1 := HX.out.r1.cell ht
  have n3 := HX.out.n15
  have n4 := HX.out.n16
  go_region_held3 (fun w' => w'.cell? ⟨b5, 5, none⟩ = some (.slice (some ⟨b1, 0, none⟩) n n) ∧ w'.cell? ⟨b6, 0, none⟩ = some (.int .i32 gid))
    (first | (go_keep; done) | exact ⟨(World.cell?_setCell_far wx ⟨b1, t, none⟩ ⟨b5, 5, none⟩ _ (fun e => n3 e.symm)).trans q2, (World.cell?_setCell_far wx ⟨b1, t, none⟩ ⟨b6, 0, none⟩ _ (fun e => n4 e.symm)).trans q3⟩) (fail)
  have hU := (HX.out.setAl t gid).later (grown_drew _ none)
  have oU : Only w (wx.setCell ⟨b1, t, none⟩ (.int .i32 gid)).drew b0 b1 b6 tv := OX.out.trans ((Only.grown (grown_setCell wx b1 t (.int .i32 gid)) (fun b hb => by simp at hb; exact .inr (.inl hb.symm))).trans (Only.grown (grown_drew _ none) (by simp)))
  have bU : Below B w (wx.setCell ⟨b1, t, none⟩ (.int .i32 gid)).drew := (BX.out.setCell (p := ⟨b1, t, none⟩) HX.out.lo.2.1 _).drew
  have HU := hide hU
  have OU := hide oU
  have BU := hide bU
  clear hU oU bU HX OX BX q1 q2 q3 q4 q5 r0 r1 f0 f1
  generalize (wx.setCell ⟨b1, t, none⟩ (.int .i32 gid)).drew = wu at *
  obtain ⟨q1, q2, q3, q4, q5, q6⟩ := JS_cells HU.out
  have q63 := q6 3
  have HV := hide (HU.out.setCom (wrap64 (com + 1)))
  have OV := hide (OU.out.trans (Only.grown (grown_setCell wu b6 3 (.int .i64 (wrap64 (com + 1)))) (fun b hb => by simp at hb; exact .inr (.inr (.inl hb.symm)))))
  have BV := hide (BU.out.setCell (p := ⟨b6, 3, none⟩) HU.out.lo.2.2.2 (.int .i64 (wrap64 (com + 1))))
  clear q6
  go_wp2_with fail
  clear HU OU BU q1 q2 q3 q4 q5 q63
  generalize wu.setCell ⟨b6, 3, none⟩ (.int .i64 (wrap64 (com + 1))) = wx at *
  have HX := HV
  have OX := OV
  have BX := BV
  obtain ⟨q1, q2, q3, q4, q5, q6⟩ := JS_cells HX.out
  have r0 := HX.out.r0.cell ht
  have f0 := HX.out.r0.frozen t
  clear q6 HV OV BV
  go_region_held3 (fun w' => w'.cell? ⟨b5, 4, none⟩ = some (.slice (some ⟨b0, 0, none⟩) n n) ∧ w'.cell? ⟨b6, 0, none⟩ = some (.int .i32 gid))
    (first | (go_keep; done) | exact ⟨(World.cell?_setCell_far wx ⟨b0, t, none⟩ ⟨b5, 4, none⟩ _ (fun e => n1 e.symm)).trans q1, (World.cell?_setCell_far wx ⟨b0, t, none⟩ ⟨b6, 0, none⟩ _ (fun e => n2 e.symm)).trans q3⟩) (fail)
  have hY := (HX.out.setIn t gid).later (grown_drew _ none)
  have oY : Only w (wx.setCell ⟨b0, t, none⟩ (.int .i32 gid)).drew b0 b1 b6 tv := OX.out.trans ((Only.grown (grown_setCell wx b0 t (.int .i32 gid)) (fun b hb => by simp at hb; exact .inl hb.symm)).trans (Only.grown (grown_drew _ none) (by simp)))
  have bY : Below B w (wx.setCell ⟨b0, t, none⟩ (.int .i32 gid)).drew := (BX.out.setCell (p := ⟨b0, t, none⟩) HX.out.lo.1 _).drew
  have HY := hide hY
  have OY := hide oY
  have BY := hide bY
  clear hY oY bY HX OX BX q1 q2 q3 q4 q5 r0
  generalize (wx.setCell ⟨b0, t, none⟩ (.int .i32 gid)).drew = wy at *
  obtain ⟨q1, q2, q3, q4, q5, q6⟩ := JS_cells HY.out
  have q62 := q6 2
  have hl6 := lt_of_block HY.out.gg
  have hlo := HY.out.lo.2.2.2
  have h6t := HY.out.nt6
  obtain ⟨av, cv, hform⟩ : ∃ av cv, tv = .slice av txs.length cv := by
    rcases HY.out.tx.2 with ⟨h1, h2⟩ | ⟨g, cap, cur, h1, _⟩
    · exact ⟨none, 0, by rw [h1, h2]⟩
    · exact ⟨_, cap, h1⟩
  subst hform
  have HT := hide h6t
  clear q6 h6t
  go_wp2_with (at_builtin; refine wpList_append_lies _ rfl _ _ 22 rfl B 21 i21 (.int .i32 0) 1 4 Yba.underlying22 hi21 hz21 hs21 hb21 rfl (by omega) (.slice av txs.length cv) txs.length _ rfl (HY.out.tx.alloc _) ⟨wy.heap.size, 0, none⟩ 1 1 [.int .i32 (t : Int)] rfl rfl (by exact cell_one_new _ _ _) (by simp [Value.oneCell']) (by omega) (by unfold maxLen; omega) (by omega) (by simp; omega) (wy.heap.size + 1) (by simp) ?_)
  intro gn cap w1 hown hgrow hat hlt
  obtain ⟨hJ, oJ, g6⟩ := HY.out.push hown hgrow hat
  have bJ := HY.out.below BY.out hgrow (.slice (some ⟨gn, 0, none⟩) (txs.length + 1) cap)
  have c62 : w1.cell? ⟨b6, 2, none⟩ = some (.slice av txs.length cv) := by simp [World.cell?, g6]
  have f62 : w1.frozen? ⟨b6, 2, none⟩ = false := by simp [World.frozen?, g6]
  have HJ := hide hJ
  have OJ := hide (OY.out.trans oJ)
  have BJ := hide bJ
  clear hJ oJ bJ g6 hown hgrow hat q1 q2 q3 q4 q5 q62
  go_wp2
  go_end0
  exact ⟨rfl, _, HJ.out, OJ.out, BJ.out⟩

end Go.Proofs.Ybulkbiak.lawS2948CJoin

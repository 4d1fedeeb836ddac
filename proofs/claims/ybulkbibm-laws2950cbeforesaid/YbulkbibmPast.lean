/-
  (History).Before by its contract.
-/
import Derived.Test.YbulkbibmRowParts
import Derived.Deep.DeepCutAuto
namespace Go.Proofs.Ybulkbibm.Time
open Go.ChangeShapes Go.WideShapes Go.ChangeAt Go.RowKit
set_option linter.unusedVariables false

/-- The law's register, cell by cell. -/
def regCells (dir : ByteArray) (pg g n gc m ob : Nat) : List Value :=
  [.string dir, .slice (some ⟨pg, 0, none⟩) 1 1, .slice (some ⟨g, 0, none⟩) n n, .slice (some ⟨gc, 0, none⟩) m m, .slice none 0 0, .string ⟨#[]⟩, .int .u64 0, .int .i64 0, .pointer none, .int .i64 0,
   .slice none 0 0, .slice none 0 0, .slice none 0 0, .slice none 0 0, .slice none 0 0, .slice none 0 0, .map none, .map (some ob)]

theorem size61 : (Yba.prog.info? 61).map (·.size) = some 18 := by kernel_rfl
theorem reg_one (dir : ByteArray) (pg g n gc m ob : Nat) : (regCells dir pg g n gc m ob).toArray.all (·.oneCell') = true := by
  simp [regCells, Value.oneCell']

set_option maxRecDepth 100000 in
set_option maxHeartbeats 2000000 in
theorem past_any (rb g gc n m c k : Nat) (W E : Nat → Int) (W2 E2 : Int) (pg ob : Nat) (dir : ByteArray) (w : World) (hcn : c ≤ n) (hn : n ≤ 1024) (hm : m ≤ 1025) (hk : k < m)
    (hR : w.rangeAt rb 0 (regCells dir pg g n gc m ob))
    (ha : ∀ i, i < n → At w g i (W i) (E i))
    (d0 : w.cell? ⟨gc, k * 10 + 1, none⟩ = some (.int .u64 W2)) (d1 : w.cell? ⟨gc, k * 10 + 2, none⟩ = some (.int .i64 E2)) (d2 : w.cell? ⟨gc, k * 10 + 3, none⟩ = some (.pointer none))
    (h0 : ∀ i, i < n → 0 ≤ W i ∧ W i < 1000000000) (k0 : 0 ≤ W2) (k1 : W2 < 1000000000)
    (lo : ∀ i, i < c → W i + 1000000000 * E i < W2 + 1000000000 * E2) (hi : ∀ i, c ≤ i → i < n → ¬ W i + 1000000000 * E i < W2 + 1000000000 * E2) :
    Calls Yba.prog 5 #[.agg #[.slice (some ⟨gc, 0, none⟩) m m, .slice none 0 0, .slice (some ⟨g, 0, none⟩) n n, .pointer (some ⟨rb, 0, none⟩)], .int .i64 (k : Int)] w fun e w' =>
      ∃ pb, e = .returned (.pointer (some ⟨pb, 0, none⟩)) ∧ w.heap.size ≤ pb ∧ w.grownBy w' none ∧ w'.cell? ⟨pb, 0, none⟩ = some (.string dir) ∧ w'.cell? ⟨pb, 1, none⟩ = some (.slice (some ⟨pg, 0, none⟩) 1 1)
        ∧ w'.cell? ⟨pb, 2, none⟩ = some (.slice (some ⟨g, 0, none⟩) c c) ∧ w'.cell? ⟨pb, 3, none⟩ = some (.slice (some ⟨gc, 0, none⟩) k k) ∧ w'.cell? ⟨pb, 17, none⟩ = some (.map (some ob)) ∧ ∃ cs, w'.heap[pb]? = some (.cells cs 61 (0, 0)) := by
  have HA := hide ha
  have H0 := hide h0
  have LO := hide lo
  have HI := hide hi
  have HR := hide hR
  have D0 := hide d0
  have D1 := hide d1
  have D2 := hide d2
  clear ha h0 lo hi hR d0 d1 d2
  have b0 : (0 : Int) ≤ (k : Int) := by omega
  have b1 : (k : Int) < (m : Int) := by omega
  go_enter Yba.func5, Yba.ntmps5
  go_upto_region 1 with fail
  obtain ⟨w1, hw1⟩ : ∃ w1, w1 = w.alloc (Obj.cells #[.slice (some ⟨gc, 0, none⟩) m m, .slice none 0 0, .slice (some ⟨g, 0, none⟩) n n, .pointer (some ⟨rb, 0, none⟩)] 64) := ⟨_, rfl⟩
  rw [← hw1]
  have g1 : w.grownBy w1 none := hw1 ▸ World.grownBy_alloc w _ none
  have q0 : w1.cell? ⟨w.heap.size, 0, none⟩ = some (.slice (some ⟨gc, 0, none⟩) m m) := by rw [hw1]; go_simp
  have q2 : w1.cell? ⟨w.heap.size, 2, none⟩ = some (.slice (some ⟨g, 0, none⟩) n n) := by rw [hw1]; go_simp
  have q3 : w1.cell? ⟨w.heap.size, 3, none⟩ = some (.pointer (some ⟨rb, 0, none⟩)) := by rw [hw1]; go_simp
  have hs1 : w.heap.size < w1.heap.size := cell_lt q0
  generalize hhb : w.heap.size = hb at *
  clear hw1
  have G1 := hide g1
  have hR1 : w1.rangeAt rb 0 (regCells dir pg g n gc m ob) := fun j v hv => kept g1 (HR.out j v hv)
  have HR1 := hide hR1
  clear g1 hR1
  go_upto_region 3 with (first | (refine wpList_load_mid rfl 61 _ rfl rb 0 rfl (regCells dir pg g n gc m ob) _ HR1.out Yba.underlying61 rfl size61 ?_) | (refine wpList_store_new w1 _ 61 18 rfl 61 _ _ rfl (regCells dir pg g n gc m ob).toArray rfl rfl rfl rfl size61 (reg_one _ _ _ _ _ _ _) ?_; intro w2 g2 hs2 r2; have Q0 := kept g2 q0; have Q2 := kept g2 q2; have F3 := r2.frozen 3; have C3 := r2.cell (i := 3) (by decide); have G2 := hide g2; have R2 := hide r2; clear g2 r2 q0 q2 q3))
  generalize hpb : w1.heap.size = pb at *
  obtain ⟨w3, hw3⟩ : ∃ w3, w3 = w2.setCell ⟨pb, 3, none⟩ (.slice (some ⟨gc, 0, none⟩) k k) := ⟨_, rfl⟩
  rw [← hw3]
  have hne : hb ≠ pb := by omega
  have gs3 : w2.grownBy w3 (some pb) := hw3 ▸ grown_setCell _ _ _ _
  have g3 : w.grownBy w3 none := by
    have h12 := grown_trans G1.out G2.out
    refine ⟨gs3.os.trans h12.os, gs3.tape.trans h12.tape, gs3.output.trans h12.output, Nat.le_trans h12.size gs3.size, fun j hj _ => ?_⟩
    have hj2 := h12.size
    exact (gs3.block j (by omega) (by simp; omega)).trans (h12.block j hj (by simp))
  have q0 := kept_other gs3 Q0 hne
  have q2 := kept_other gs3 Q2 hne
  have r3 : w3.rowIs pb 61 18 _ := hw3 ▸ R2.out.set 3 (.slice (some ⟨gc, 0, none⟩) k k)
  have e0 := kept g3 D0.out
  have e1 := kept g3 D1.out
  have e2 := kept g3 D2.out
  have lgc := cell_lt e0
  have lhb := cell_lt q0
  have G3 := hide g3
  have R3 := hide r3
  clear hw3 g3 r3 gs3 Q0 Q2 F3 C3 R2 G2 G1 HR1
  go_wp2_with fail
  have ga : w3.grownBy (w3.alloc (Obj.cells #[Value.int IntKind.u64 W2, Value.int IntKind.i64 E2, Value.pointer none] 30)) none := World.grownBy_alloc _ _ _
  refine (search_any hb w3.heap.size g n c W E W2 E2 _ hcn hn (kept ga q2) (fun i hi => (HA.out i hi).kept (grown_trans G3.out ga)) (by go_simp) (by go_simp) (by go_simp) H0.out k0 k1 LO.out (fun i h1 h2 => by have := HI.out i h1 h2; omega)).mono ?_
  rintro e w5 ⟨rfl, g5⟩
  have g35 := grown_trans ga g5
  have r5 := row_kept R3.out g35 (by simp)
  have q5 := kept g35 q2
  have f5 := r5.frozen 2
  have c5 := r5.cell (i := 2) (by decide)
  have hsz := g35.size
  have G5 := hide (grown_trans G3.out g35)
  have R5 := hide r5
  clear ga g5 g35 r5 q0 q2 e0 e1 e2
  have b2 : (0 : Int) ≤ (c : Int) := by omega
  have b3 : (c : Int) ≤ (n : Int) := by omega
  go_wp2_with fail
  go_ret
  have r6 := R5.out.set 2 (.slice (some ⟨g, 0, none⟩) c c)
  have gs6 := grown_setCell w5 pb 2 (.slice (some ⟨g, 0, none⟩) c c)
  refine ⟨pb, rfl, by omega, ?_, (r6.cell (by decide)).trans rfl, (r6.cell (by decide)).trans rfl, (r6.cell (by decide)).trans rfl, (r6.cell (by decide)).trans rfl, (r6.cell (by decide)).trans rfl, by obtain ⟨a6, h6⟩ := r6; exact ⟨a6, h6.1⟩⟩
  have h5 := G5.out
  refine ⟨gs6.os.trans h5.os, gs6.tape.trans h5.tape, gs6.output.trans h5.output, Nat.le_trans h5.size gs6.size, fun j hj _ => ?_⟩
  have hj5 := h5.size
  exact (gs6.block j (by omega) (by simp; omega)).trans (h5.block j hj (by simp))

end Go.Proofs.Ybulkbibm.Time

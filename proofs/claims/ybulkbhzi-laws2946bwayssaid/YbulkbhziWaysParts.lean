import Derived.Test.YbulkbhziRows
import Derived.WalkKit
import Derived.ProofKit
import Derived.OpenShut
import Derived.Below
import Derived.WalkSpells
import Derived.WalkLawsBesides
import Derived.Deep.QuietTactic
import Derived.BigQuiet
import Derived.WalkSmall
import Derived.Maps.OwnOps
namespace Go.Proofs.Ybulkbhzi.lawS2946BWays
open Go.ChangeShapes Go.WideShapes Go.ChangeAt Go.RowKit
set_option linter.unusedVariables false

def kd (s r : Int) : Int := if s % 3 = 0 then 14 else if s % 3 = 1 then 16 else r

theorem kind_any (s r : Int) (w : World) (h0 : 0 ≤ s) (h1 : s ≤ 255) :
    Calls Yba.prog 6 #[.int .u8 s, .int .u8 r] w fun e w' => e = .returned (.int .u8 (kd s r)) ∧ w = w' := by
  unfold kd
  by_cases c0 : s % 3 = 0
  · have c0' : (s % 3 == 0) = true := by simp [c0]
    rw [if_pos c0]
    clear c0
    go_enter Yba.func6, Yba.ntmps6
    go_wp2
    go_ret
    exact ⟨rfl, rfl⟩
  · have c0' : (s % 3 == 0) = false := by simp [c0]
    rw [if_neg c0]
    by_cases c1 : s % 3 = 1
    · have c1' : (s % 3 == 1) = true := by simp [c1]
      rw [if_pos c1]
      clear c0 c1
      go_enter Yba.func6, Yba.ntmps6
      go_wp2
      go_ret
      exact ⟨rfl, rfl⟩
    · have c1' : (s % 3 == 1) = false := by simp [c1]
      rw [if_neg c1]
      clear c0 c1
      go_enter Yba.func6, Yba.ntmps6
      go_wp2
      go_ret
      exact ⟨rfl, rfl⟩

theorem bcell {W w1 : World} (hb : Below W.heap.size W w1) : (∀ b o, b < W.heap.size → w1.cell? ⟨b, o, none⟩ = W.cell? ⟨b, o, none⟩) ∧ (∀ b o, b < W.heap.size → w1.frozen? ⟨b, o, none⟩ = W.frozen? ⟨b, o, none⟩) :=
  ⟨fun b o h => hb.cell (p := ⟨b, o, none⟩) h, fun b o h => hb.frozen (p := ⟨b, o, none⟩) h⟩

/-- A look-up whose run is known. -/
theorem wpList_lookup_is {P : Program} (w : World) {ops : Array Oper} {rest : List Oper} {o : Oper} {a : Act} {Q : Exit → Act → World → Prop}
    (hg : o.guard = none) (m x : Operand) (t : TypeId) (hop : o.op = Op.lookup t m x false) (mv key u : Value) (hm : a.eval m = mv) (hx : a.eval x = key)
    (hrun : (Instr.lookup t mv key false).run P w = .ok u w) (hK : wpList P ops Q rest (a.put o.dst u) w) : wpList P ops Q (o :: rest) a w := by
  refine wpList_plain hg fun K' hK' => ?_
  unfold Oper.wp
  simp [execOp, hop, hm, hx, hrun, Result.andThen]
  exact hK' _ _ hK

/-- What 'blocks' reads: the history's two slices, the links' nest and hold, the two operations' kinds. -/
structure Laid (w : World) (B0 B1 B2 N1 H2 : Nat) (ka kb : Int) : Prop where
  ops : w.cell? ⟨B2, 1, none⟩ = some (.slice (some ⟨B0, 0, none⟩) 3 3)
  nests : w.cell? ⟨B2, 13, none⟩ = some (.slice (some ⟨B1, 0, none⟩) 2 2)
  nest : w.cell? ⟨N1, 0, none⟩ = some (.int .i64 1)
  hold : w.cell? ⟨H2, 0, none⟩ = some (.int .i64 2)
  acq : w.cell? ⟨B1, 2, none⟩ = some (.int .i64 1)
  kinda : w.cell? ⟨B0, 16, none⟩ = some (.int .u8 ka)
  kindb : w.cell? ⟨B0, 32, none⟩ = some (.int .u8 kb)

theorem Laid.lt {w : World} {B0 B1 B2 N1 H2 : Nat} {ka kb : Int} (h : Laid w B0 B1 B2 N1 H2 ka kb) : B0 < w.heap.size ∧ B1 < w.heap.size ∧ B2 < w.heap.size ∧ N1 < w.heap.size ∧ H2 < w.heap.size :=
  ⟨World.block_lt_of_cell? w _ h.kinda, World.block_lt_of_cell? w _ h.acq, World.block_lt_of_cell? w _ h.ops, World.block_lt_of_cell? w _ h.nest, World.block_lt_of_cell? w _ h.hold⟩

theorem Laid.below {w w' : World} {B0 B1 B2 N1 H2 : Nat} {ka kb : Int} (h : Laid w B0 B1 B2 N1 H2 ka kb) (hb : Below w.heap.size w w') : Laid w' B0 B1 B2 N1 H2 ka kb := by
  obtain ⟨l0, l1, l2, l3, l4⟩ := h.lt
  have hc := (bcell hb).1
  exact ⟨(hc _ _ l2).trans h.ops, (hc _ _ l2).trans h.nests, (hc _ _ l3).trans h.nest, (hc _ _ l4).trans h.hold, (hc _ _ l1).trans h.acq, (hc _ _ l0).trans h.kinda, (hc _ _ l0).trans h.kindb⟩

set_option maxRecDepth 100000 in
set_option maxHeartbeats 4000000 in
theorem blocks_any (B0 B1 B2 N1 H2 : Nat) (ka kb : Int) (v0 v1 v2 v4 v5 u0 u1 u2 u3 u5 : Value) (w : World) (h : Laid w B0 B1 B2 N1 H2 ka kb) (bl : Bool) (hbl : bl = (ka == 14 || kb == 14)) :
    Calls Yba.prog 12 #[.pointer (some ⟨B2, 0, none⟩), .agg #[v0, v1, v2, .slice (some ⟨N1, 0, none⟩) 1 1, v4, v5], .agg #[u0, u1, u2, u3, .slice (some ⟨H2, 0, none⟩) 1 1, u5]] w
      fun e w' => e = .returned (.bool bl) ∧ Below w.heap.size w w' := by
  subst hbl
  obtain ⟨l0, l1, l2, l3, l4⟩ := h.lt
  obtain ⟨g1, g2, g3, g4, g5, g6, g7⟩ := h
  by_cases ha : (ka == 14) = true
  · rw [ha]
    go_enter Yba.func12, Yba.ntmps12
    go_wp2
    go_quiet (fail)
    go_wp2
    go_ret
    exact ⟨rfl, below_drewN (((Below.refl _ _).alloc (Nat.le_refl _) _).alloc (by simp) _) _⟩
  · rw [Bool.not_eq_true] at ha
    rw [ha]
    go_enter Yba.func12, Yba.ntmps12
    go_wp2
    go_quiet (fail)
    go_wp2
    go_ret
    exact ⟨rfl, below_drewN (((Below.refl _ _).alloc (Nat.le_refl _) _).alloc (by simp) _) _⟩

set_option maxRecDepth 100000 in
set_option maxHeartbeats 4000000 in
theorem between_blocks (B0 B1 B2 N1 H2 : Nat) (ka kb : Int) (v0 v1 v2 v4 v5 u0 u1 u2 u3 u5 mv : Value) (w : World) (h : Laid w B0 B1 B2 N1 H2 ka kb) (hbl : true = (ka == 14 || kb == 14)) :
    Calls Yba.prog 7 #[.pointer (some ⟨B2, 0, none⟩), .agg #[v0, v1, v2, .slice (some ⟨N1, 0, none⟩) 1 1, v4, v5], .agg #[u0, u1, u2, u3, .slice (some ⟨H2, 0, none⟩) 1 1, u5], mv] w
      fun e w' => ∃ g, e = .returned (.slice (some ⟨g, 0, none⟩) 1 1) ∧ w'.cell? ⟨g, 0, none⟩ = some (.int .i64 (-1)) ∧ Below w.heap.size w w' := by
  have HBL : Hid (true = (ka == 14 || kb == 14)) := hbl
  clear hbl
  have HL : Hid (Laid w B0 B1 B2 N1 H2 ka kb) := h
  clear h
  go_enter Yba.func7, Yba.ntmps7
  go_wp2_with (go_at_call 12; refine (blocks_any B0 B1 B2 N1 H2 ka kb _ _ _ _ _ _ _ _ _ _ _ ?_ true HBL.out).mono ?_)
  · exact HL.out.below (((Below.refl _ _).alloc (Nat.le_refl _) _).alloc (by simp) _)
  rintro e w' ⟨rfl, hb⟩
  go_wp2
  go_ret
  have hz := hb.size
  simp at hz
  refine ⟨_, rfl, by simp, ?_⟩
  exact ((((Below.refl _ _).alloc (Nat.le_refl _) _).alloc (by simp) _).trans (hb.mono (by simp; omega))).alloc (by omega) _

set_option maxRecDepth 100000 in
set_option maxHeartbeats 4000000 in
theorem between_looks (B0 B1 B2 N1 H2 : Nat) (ka kb to : Int) (v0 v1 v4 v5 u0 u1 u2 u3 u5 mv u : Value) (w : World) (h : Laid w B0 B1 B2 N1 H2 ka kb) (hbl : false = (ka == 14 || kb == 14))
    (hl : ∀ w', Below w.heap.size w w' → (Instr.lookup 22 mv (.int .i64 to) false).run Yba.prog w' = .ok u w') :
    Calls Yba.prog 7 #[.pointer (some ⟨B2, 0, none⟩), .agg #[v0, v1, .int .i64 to, .slice (some ⟨N1, 0, none⟩) 1 1, v4, v5], .agg #[u0, u1, u2, u3, .slice (some ⟨H2, 0, none⟩) 1 1, u5], mv] w
      fun e w' => e = .returned u ∧ Below w.heap.size w w' := by
  have HBL : Hid (false = (ka == 14 || kb == 14)) := hbl
  clear hbl
  have HL : Hid (Laid w B0 B1 B2 N1 H2 ka kb) := h
  clear h
  have HLK : Hid (∀ w', Below w.heap.size w w' → (Instr.lookup 22 mv (.int .i64 to) false).run Yba.prog w' = .ok u w') := hl
  clear hl
  go_enter Yba.func7, Yba.ntmps7
  go_wp2_with (go_at_call 12; refine (blocks_any B0 B1 B2 N1 H2 ka kb _ _ _ _ _ _ _ _ _ _ _ ?_ false HBL.out).mono ?_)
  · exact HL.out.below (((Below.refl _ _).alloc (Nat.le_refl _) _).alloc (by simp) _)
  rintro e w' ⟨rfl, hb⟩
  have hz := hb.size
  simp at hz
  obtain ⟨hc, hf⟩ := bcell hb
  have hbb : Below w.heap.size w w' := (((Below.refl _ _).alloc (Nat.le_refl _) _).alloc (by simp) _).trans (hb.mono (by simp; omega))
  have HB : Hid (Below w.heap.size w w') := hbb
  clear hbb hb
  go_wp2_with (at_lookup; refine wpList_lookup_is _ rfl _ _ 22 rfl mv (.int .i64 to) u rfl rfl (HLK.out _ HB.out) ?_)
  go_ret
  exact ⟨rfl, HB.out⟩

end Go.Proofs.Ybulkbhzi.lawS2946BWays

import Derived.Test.YbulkbhziRows
import Derived.Test.YbulkbhziWaysParts
import Derived.WalkKit
import Derived.ProofKit
import Derived.OpenShut
import Derived.Below
import Derived.WalkSpells
import Derived.WalkLawsBesides
import Derived.Deep.QuietTactic
import Derived.BigQuiet
import Derived.WalkSmall
import Derived.Maps.OwnOps
namespace Go.Proofs.Ybulkbhzi.lawS2946BWays
open Go.ChangeShapes Go.WideShapes Go.ChangeAt Go.RowKit
set_option linter.unusedVariables false


set_option maxRecDepth 100000 in
set_option maxHeartbeats 4000000 in
theorem walk_blocks (sa ra sb rb to : Int) (mv : Value) (w : World) (h1 : 0 ≤ sa ∧ sa ≤ 255) (h2 : 0 ≤ sb ∧ sb ≤ 255) (hbl : (kd sa ra == 14 || kd sb rb == 14) = true) :
    Calls Yba.prog 3 #[.int .u8 sa, .int .u8 ra, .int .u8 sb, .int .u8 rb, .int .i64 to, mv] w fun e w' => e = .returned (.bool true) ∧ Below w.heap.size w w' := by
  have HBL : Hid (true = (kd sa ra == 14 || kd sb rb == 14)) := hbl.symm
  clear hbl
  go_enter Yba.func3, Yba.ntmps3
  go_wp2_with (go_at_call 6; refine (kind_any _ _ _ (by omega) (by omega)).mono ?_; rintro e w' ⟨rfl, rfl⟩)
  refine (between_blocks w.heap.size (w.heap.size + 1) (w.heap.size + 1 + 1) (w.heap.size + 1 + 1 + 1) (w.heap.size + 1 + 1 + 1 + 1 + 1) (kd sa ra) (kd sb rb) _ _ _ _ _ _ _ _ _ _ _ _ ?_ HBL.out).mono ?_
  · constructor <;> go_simp
  rintro e w1 ⟨g, rfl, hg, hb⟩
  have hbb : Below w.heap.size w w1 := by
    refine Below.trans ?_ (hb.mono (by simp; omega))
    repeat (first | exact Below.refl _ _ | refine Below.alloc ?_ (by simp; try omega) _)
  have HB : Hid (Below w.heap.size w w1) := hbb
  clear hbb hb
  by_cases ha : (kd sa ra == 14) = true
  · go_wp2
    go_ret
    exact ⟨rfl, HB.out⟩
  · rw [Bool.not_eq_true] at ha
    have hb : (kd sb rb == 14) = true := by have := HBL.out; rw [ha] at this; simpa using this.symm
    go_wp2
    go_ret
    exact ⟨rfl, HB.out⟩

set_option maxRecDepth 100000 in
set_option maxHeartbeats 4000000 in
theorem walk_looks (sa ra sb rb to : Int) (mv : Value) (ao : Option Addr) (l c : Nat) (Z : List Int) (w : World) (h1 : 0 ≤ sa ∧ sa ≤ 255) (h2 : 0 ≤ sb ∧ sb ≤ 255) (ha : (kd sa ra == 14) = false) (hb14 : (kd sb rb == 14) = false)
    (hl : ∀ w', Below w.heap.size w w' → (Instr.lookup 22 mv (.int .i64 to) false).run Yba.prog w' = .ok (.slice ao l c) w') (hlc : l ≤ c) (hcm : c ≤ maxLen)
    (hcells : 0 < l → ∃ b off, ao = some ⟨b, off, none⟩ ∧ ∀ j, j < l → w.cell? ⟨b, off + j, none⟩ = some (.int .i64 (Z.getD j 0))) :
    Calls Yba.prog 3 #[.int .u8 sa, .int .u8 ra, .int .u8 sb, .int .u8 rb, .int .i64 to, mv] w fun e w' => e = .returned (.bool true) ∧ Below w.heap.size w w' := by
  have HBL : Hid (false = (kd sa ra == 14 || kd sb rb == 14)) := by rw [ha, hb14]; rfl
  have HLK : Hid (∀ w', Below w.heap.size w w' → (Instr.lookup 22 mv (.int .i64 to) false).run Yba.prog w' = .ok (.slice ao l c) w') := hl
  have HC : Hid (0 < l → ∃ b off, ao = some ⟨b, off, none⟩ ∧ ∀ j, j < l → w.cell? ⟨b, off + j, none⟩ = some (.int .i64 (Z.getD j 0))) := hcells
  clear hl hcells
  unfold maxLen at hcm
  have qe : ∀ (w : World) (a : Option Addr) (n c n' c' : Nat), (binOp .eql 29 (.slice a n c) (.slice none n' c')).run Yba.prog w = .ok (.bool a.isNone) w := fun w a n c n' c' => Lib.run_eql_slice_nil w _ _ a n c n' c' Yba.underlying29
  go_enter Yba.func3, Yba.ntmps3
  go_wp2_with (go_at_call 6; refine (kind_any _ _ _ (by omega) (by omega)).mono ?_; rintro e w' ⟨rfl, rfl⟩)
  refine (between_looks w.heap.size (w.heap.size + 1) (w.heap.size + 1 + 1) (w.heap.size + 1 + 1 + 1) (w.heap.size + 1 + 1 + 1 + 1 + 1) (kd sa ra) (kd sb rb) to _ _ _ _ _ _ _ _ _ mv (.slice ao l c) _ ?_ HBL.out ?_).mono ?_
  · constructor <;> go_simp
  · intro w' hb'
    refine HLK.out w' (Below.trans ?_ (hb'.mono (by simp; omega)))
    repeat (first | exact Below.refl _ _ | refine Below.alloc ?_ (by simp; try omega) _)
  rintro e w1 ⟨rfl, hb⟩
  have hbb : Below w.heap.size w w1 := by
    refine Below.trans ?_ (hb.mono (by simp; omega))
    repeat (first | exact Below.refl _ _ | refine Below.alloc ?_ (by simp; try omega) _)
  have HB : Hid (Below w.heap.size w w1) := hbb
  clear hbb hb
  by_cases hl0 : l = 0
  · subst hl0
    go_wp2_with (at_lookup; refine wpList_lookup_is _ rfl _ _ 22 rfl mv (.int .i64 to) (.slice ao 0 c) rfl rfl (HLK.out _ HB.out) ?_)
    refine wp_loop_rounds 1 ?_
    rw [rounds_succ]
    go_wp2
    go_ret
    exact ⟨rfl, HB.out⟩
  · obtain ⟨b, off, rfl, hcc⟩ := HC.out (by omega)
    have hbw : b < w.heap.size := World.block_lt_of_cell? w _ (hcc 0 (by omega))
    have HCC : Hid (∀ j, j < l → w.cell? ⟨b, off + j, none⟩ = some (.int .i64 (Z.getD j 0))) := hcc
    clear hcc
    go_wp2_with (at_lookup; refine wpList_lookup_is _ rfl _ _ 22 rfl mv (.int .i64 to) (.slice (some ⟨b, off, none⟩) l c) rfl rfl (HLK.out _ HB.out) ?_)
    go_loopw [21] (fun j wx => ∃ k q : Nat, k ≤ l ∧ j = .int .i64 k ∧ wx = w1.drewN q) (fun j _ => l - (intOf j).toNat)
    case atStart => exact ⟨0, 0, Nat.zero_le _, rfl, rfl⟩
    case round =>
      obtain ⟨k, q, hk, rfl, rfl⟩ := hrel
      by_cases hkl : k < l
      · have hcell : w1.cell? ⟨b, off + k, none⟩ = some (.int .i64 (Z.getD k 0)) := (HB.out.cell (by exact hbw)).trans (HCC.out k hkl)
        have hki : (k : Int) < (l : Int) := by omega
        go_wp2_with fail
        go_quiet (fail)
        go_wp2
        go_roundw
        case rel => exact ⟨k + 1, q + nq, by omega, by go_num, rfl⟩
        case measure => simp [intOf]; omega
      · go_wp2
        go_ret
        exact ⟨rfl, below_drewN HB.out _⟩

end Go.Proofs.Ybulkbhzi.lawS2946BWays

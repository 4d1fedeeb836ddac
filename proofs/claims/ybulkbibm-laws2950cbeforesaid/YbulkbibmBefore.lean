/-
  (Time).Before by its contract.
-/
import Derived.Test.YbulkbibmTime
namespace Go.Proofs.Ybulkbibm.Time
open Go.ChangeShapes Go.WideShapes Go.ChangeAt Go.RowKit
set_option linter.unusedVariables false

theorem and_lt (W1 W2 : Int) (h0 : 0 ≤ W1) (h1 : W1 < 1073741824) (k0 : 0 ≤ W2) (k1 : W2 < 1073741824) : 0 ≤ bits BinOp.and IntKind.u64 W1 W2 ∧ bits BinOp.and IntKind.u64 W1 W2 < 1073741824 := by
  have h := bits_and_u64_nat W1.toNat W2.toNat (by omega) (by omega)
  rw [Int.toNat_of_nonneg h0, Int.toNat_of_nonneg k0] at h
  have hle := Nat.and_le_left (n := W1.toNat) (m := W2.toNat)
  omega

set_option maxRecDepth 100000 in
set_option maxHeartbeats 1000000 in
theorem before_any (W1 E1 W2 E2 : Int) (w : World) (h0 : 0 ≤ W1) (h1 : W1 < 1000000000) (k0 : 0 ≤ W2) (k1 : W2 < 1000000000) :
    Calls Yba.prog 6 #[.agg #[.int .u64 W1, .int .i64 E1, .pointer none], .agg #[.int .u64 W2, .int .i64 E2, .pointer none]] w fun e w' =>
      e = .returned (.bool (decide (W1 + 1000000000 * E1 < W2 + 1000000000 * E2))) ∧ w.grownBy w' none := by
  obtain ⟨x0, x1⟩ := and_lt W1 W2 h0 (by omega) k0 (by omega)
  have hm := and_mono _ x0 x1
  clear x0 x1
  rcases Int.lt_trichotomy E1 E2 with c | c | c
  · rw [decide_eq_true (show W1 + 1000000000 * E1 < W2 + 1000000000 * E2 by omega)]
    have hne : (E1 == E2) = false := by simp; omega
    go_enter Yba.func6, Yba.ntmps6
    go_wp2_with fail
    refine (sec_any w.heap.size W1 E1 _ (by go_simp) (by go_simp) h0 h1).mono ?_
    rintro e w' ⟨rfl, rfl⟩
    go_wp2_with fail
    refine (sec_any (w.heap.size + 1) W2 E2 _ (by go_simp) (by go_simp) k0 k1).mono ?_
    rintro e w' ⟨rfl, rfl⟩
    go_wp2_with fail
    go_ret
    exact ⟨rfl, grown_two _ _ _⟩
  · obtain rfl := c
    have heq : (E1 == E1) = true := by simp
    have hlt : (decide (E1 < E1)) = false := by simp
    go_enter Yba.func6, Yba.ntmps6
    go_wp2_with fail
    refine (sec_any w.heap.size W1 E1 _ (by go_simp) (by go_simp) h0 h1).mono ?_
    rintro e w' ⟨rfl, rfl⟩
    go_wp2_with fail
    refine (sec_any (w.heap.size + 1) W2 E1 _ (by go_simp) (by go_simp) k0 k1).mono ?_
    rintro e w' ⟨rfl, rfl⟩
    go_wp2_with fail
    refine (nsec_any w.heap.size W1 _ (by go_simp) h0 h1).mono ?_
    rintro e w' ⟨rfl, rfl⟩
    go_wp2_with fail
    refine (nsec_any (w.heap.size + 1) W2 _ (by go_simp) k0 k1).mono ?_
    rintro e w' ⟨rfl, rfl⟩
    go_wp2_with fail
    go_ret
    exact ⟨by simp, grown_two _ _ _⟩
  · rw [decide_eq_false (show ¬ W1 + 1000000000 * E1 < W2 + 1000000000 * E2 by omega)]
    have hne : (E1 == E2) = false := by simp; omega
    have hlt : ¬ E1 < E2 := by omega
    go_enter Yba.func6, Yba.ntmps6
    go_wp2_with fail
    refine (sec_any w.heap.size W1 E1 _ (by go_simp) (by go_simp) h0 h1).mono ?_
    rintro e w' ⟨rfl, rfl⟩
    go_wp2_with fail
    refine (sec_any (w.heap.size + 1) W2 E2 _ (by go_simp) (by go_simp) k0 k1).mono ?_
    rintro e w' ⟨rfl, rfl⟩
    go_wp2_with fail
    go_ret
    exact ⟨congrArg (fun b => Ending.returned (Value.bool b)) (decide_eq_false (by omega)), grown_two _ _ _⟩

end Go.Proofs.Ybulkbibm.Time

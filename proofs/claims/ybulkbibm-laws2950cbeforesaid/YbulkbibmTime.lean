/-
  package time's functions on the road of 'LawS2950CBefore', at times without a monotonic reading near the zero time: each by a contract.
-/
import Derived.Test.YbulkbibmRows
import Derived.WalkKit
import Derived.ProofKit
import Derived.OpenShut
import Derived.Below
import Derived.WalkSpells
import Derived.WalkLawsBesides
import Derived.WalkSmall
import Derived.Laws.Bits64b
namespace Go.Proofs.Ybulkbibm.Time
open Go.ChangeShapes Go.WideShapes Go.ChangeAt Go.RowKit
set_option linter.unusedVariables false

theorem hide {p : Prop} (h : p) : Hid p := h

theorem and_mask (W : Int) (h0 : 0 ≤ W) (h1 : W < 1073741824) : bits BinOp.and IntKind.u64 W 1073741823 = W := by
  have h := bits_and_u64_nat W.toNat 1073741823 (by omega) (by omega)
  rw [Int.toNat_of_nonneg h0] at h
  refine h.trans ?_
  rw [Nat.and_two_pow_sub_one_eq_mod W.toNat 30]
  omega

theorem and_mono (W : Int) (h0 : 0 ≤ W) (h1 : W < 1073741824) : bits BinOp.and IntKind.u64 W 9223372036854775808 = 0 := by
  have h := bits_and_u64_nat W.toNat 9223372036854775808 (by omega) (by omega)
  rw [Int.toNat_of_nonneg h0] at h
  refine h.trans ?_
  have : W.toNat &&& 9223372036854775808 = 0 := by
    apply Nat.eq_of_testBit_eq
    intro i
    rw [Nat.testBit_and, show (9223372036854775808 : Nat) = 2 ^ 63 from rfl, Nat.testBit_two_pow, Nat.zero_testBit]
    by_cases hi : 63 = i
    · subst hi
      have : W.toNat.testBit 63 = false := Nat.testBit_lt_two_pow (by omega)
      simp [this]
    · simp [hi]
  rw [this]
  rfl

theorem or_zero (W : Int) (h0 : 0 ≤ W) (h1 : W < 1073741824) : bits BinOp.or IntKind.u64 0 W = W := by
  have h := bits_or_u64_nat 0 W.toNat (by omega) (by omega)
  rw [Int.toNat_of_nonneg h0] at h
  refine Eq.trans ?_ (h.trans ?_)
  · rfl
  · rw [Nat.zero_or]; omega

theorem grown_two (w : World) (o1 o2 : Obj) : w.grownBy ((w.alloc o1).alloc o2) none := by
  have g1 := World.grownBy_alloc w o1 none
  have g2 := World.grownBy_alloc (w.alloc o1) o2 none
  exact ⟨rfl, rfl, rfl, Nat.le_trans g1.size g2.size, fun x hx hr => (g2.block x (Nat.lt_of_lt_of_le hx g1.size) hr).trans (g1.block x hx hr)⟩

theorem nsec_any (p : Nat) (W : Int) (w : World) (hc : w.cell? ⟨p, 0, none⟩ = some (.int .u64 W)) (h0 : 0 ≤ W) (h1 : W < 1000000000) :
    Calls Yba.prog 8 #[.pointer (some ⟨p, 0, none⟩)] w fun e w' => e = .returned (.int .i32 W) ∧ w = w' := by
  have hm := and_mask W h0 (by omega)
  go_enter Yba.func8, Yba.ntmps8
  go_wp2
  go_ret
  exact ⟨rfl, rfl⟩

theorem sec_any (p : Nat) (W E : Int) (w : World) (hc : w.cell? ⟨p, 0, none⟩ = some (.int .u64 W)) (he : w.cell? ⟨p, 1, none⟩ = some (.int .i64 E)) (h0 : 0 ≤ W) (h1 : W < 1000000000) :
    Calls Yba.prog 13 #[.pointer (some ⟨p, 0, none⟩)] w fun e w' => e = .returned (.int .i64 E) ∧ w = w' := by
  have hm := and_mono W h0 (by omega)
  go_enter Yba.func13, Yba.ntmps13
  go_wp2
  go_ret
  exact ⟨rfl, rfl⟩

theorem addSec_any (p : Nat) (W E d : Int) (w : World) (hc : w.cell? ⟨p, 0, none⟩ = some (.int .u64 W)) (he : w.cell? ⟨p, 1, none⟩ = some (.int .i64 E)) (hf : w.frozen? ⟨p, 1, none⟩ = false) (h0 : 0 ≤ W) (h1 : W < 1000000000)
    (e0 : -10 ≤ E) (e1 : E ≤ 10) (d0 : -1 ≤ d) (d1 : d ≤ 1) :
    Calls Yba.prog 9 #[.pointer (some ⟨p, 0, none⟩), .int .i64 d] w fun e w' => e = .returned (.tuple #[]) ∧ w.setCell ⟨p, 1, none⟩ (.int .i64 (E + d)) = w' := by
  have hm := and_mono W h0 (by omega)
  have hq : (decide (E < E + d) == decide (0 < d)) = true := by
    by_cases h : 0 < d
    · have h2 : E < E + d := by omega
      rw [decide_eq_true h, decide_eq_true h2]
      rfl
    · have h2 : ¬ E < E + d := by omega
      rw [decide_eq_false h, decide_eq_false h2]
      rfl
  go_enter Yba.func9, Yba.ntmps9
  go_wp2
  go_end0
  exact ⟨rfl, rfl⟩

theorem andNot_mask (W : Int) (h0 : 0 ≤ W) (h1 : W < 1073741824) : bits BinOp.andNot IntKind.u64 W 1073741823 = 0 := by
  have key : (BitVec.ofInt 64 W &&& ~~~ BitVec.ofInt 64 1073741823) = 0#64 := by
    obtain ⟨n, rfl⟩ := Int.eq_ofNat_of_zero_le h0
    rw [show BitVec.ofInt 64 ((n : Nat) : Int) = BitVec.ofNat 64 n from BitVec.ofInt_natCast 64 n, show BitVec.ofInt 64 1073741823 = BitVec.ofNat 64 (2 ^ 30 - 1) from rfl]
    apply BitVec.eq_of_getLsbD_eq
    intro i hi
    rw [BitVec.getLsbD_and, BitVec.getLsbD_not, BitVec.getLsbD_ofNat, BitVec.getLsbD_ofNat, Nat.testBit_two_pow_sub_one, BitVec.getLsbD_zero]
    by_cases h30 : i < 30
    · simp [h30, hi]
    · have : n.testBit i = false := Nat.testBit_lt_two_pow (Nat.lt_of_lt_of_le (show n < 2 ^ 30 by omega) (Nat.pow_le_pow_right (by omega) (by omega)))
      simp [this]
  show IntKind.u64.wrap ((BitVec.ofInt 64 W &&& ~~~ BitVec.ofInt 64 1073741823).toNat : Int) = 0
  rw [key]
  rfl

set_option maxRecDepth 100000 in
set_option maxHeartbeats 1000000 in
theorem add_any (W E d : Int) (w : World) (h0 : 0 ≤ W) (h1 : W < 1000000000) (e0 : -5 ≤ E) (e1 : E ≤ 5) (d0 : -40000 ≤ d) (d1 : d ≤ 40000) :
    Calls Yba.prog 4 #[.agg #[.int .u64 W, .int .i64 E, .pointer none], .int .i64 d] w fun e w' =>
      ∃ W' E', e = .returned (.agg #[.int .u64 W', .int .i64 E', .pointer none]) ∧ 0 ≤ W' ∧ W' < 1000000000 ∧ W' + 1000000000 * E' = W + 1000000000 * E + d ∧ w.grownBy w' none := by
  have a1 := andNot_mask W h0 (by omega)
  have t1 : d.tdiv 1000000000 = 0 := by
    rcases Int.le_total 0 d with h | h
    · exact Int.tdiv_eq_zero_of_lt h (by omega)
    · have := Int.tdiv_eq_zero_of_lt (a := -d) (b := 1000000000) (by omega) (by omega)
      rw [Int.neg_tdiv] at this
      omega
  have t2 : d.tmod 1000000000 = d := by
    rw [Int.tmod_def, t1]
    omega
  by_cases c1 : 1000000000 ≤ W + d
  · have o1 := or_zero (W + d - 1000000000) (by omega) (by omega)
    have m1 := and_mono (W + d - 1000000000) (by omega) (by omega)
    go_enter Yba.func4, Yba.ntmps4
    go_wp2_with (first | (go_at_call 8; refine (nsec_any _ W _ (by go_simp) h0 h1).mono ?_; rintro e w' ⟨rfl, rfl⟩) | (go_at_call 9; refine (addSec_any _ (W + d - 1000000000) E (1) _ (by go_simp) (by go_simp) (by go_simp) (by omega) (by omega) (by omega) (by omega) (by omega) (by omega)).mono ?_; rintro e w' ⟨rfl, rfl⟩))
    refine bodyPost_ret (v := .agg #[.int .u64 (W + d - 1000000000), .int .i64 (E + 1), .pointer none]) (by simp [results, Yba.results4, go_sem]) rfl ⟨_, _, rfl, by omega, by omega, by omega, ?_⟩
    exact grown_two _ _ _
  · by_cases c2 : W + d < 0
    · have o1 := or_zero (W + d + 1000000000) (by omega) (by omega)
      have m1 := and_mono (W + d + 1000000000) (by omega) (by omega)
      go_enter Yba.func4, Yba.ntmps4
      go_wp2_with (first | (go_at_call 8; refine (nsec_any _ W _ (by go_simp) h0 h1).mono ?_; rintro e w' ⟨rfl, rfl⟩) | (go_at_call 9; refine (addSec_any _ (W + d + 1000000000) E ((-1)) _ (by go_simp) (by go_simp) (by go_simp) (by omega) (by omega) (by omega) (by omega) (by omega) (by omega)).mono ?_; rintro e w' ⟨rfl, rfl⟩))
      refine bodyPost_ret (v := .agg #[.int .u64 (W + d + 1000000000), .int .i64 (E + (-1)), .pointer none]) (by simp [results, Yba.results4, go_sem]) rfl ⟨_, _, rfl, by omega, by omega, by omega, ?_⟩
      exact grown_two _ _ _
    · have o1 := or_zero (W + d) (by omega) (by omega)
      have m1 := and_mono (W + d) (by omega) (by omega)
      go_enter Yba.func4, Yba.ntmps4
      go_wp2_with (first | (go_at_call 8; refine (nsec_any _ W _ (by go_simp) h0 h1).mono ?_; rintro e w' ⟨rfl, rfl⟩) | (go_at_call 9; refine (addSec_any _ (W + d) E (0) _ (by go_simp) (by go_simp) (by go_simp) (by omega) (by omega) (by omega) (by omega) (by omega) (by omega)).mono ?_; rintro e w' ⟨rfl, rfl⟩))
      refine bodyPost_ret (v := .agg #[.int .u64 (W + d), .int .i64 (E + 0), .pointer none]) (by simp [results, Yba.results4, go_sem]) rfl ⟨_, _, rfl, by omega, by omega, by omega, ?_⟩
      exact grown_two _ _ _

end Go.Proofs.Ybulkbibm.Time

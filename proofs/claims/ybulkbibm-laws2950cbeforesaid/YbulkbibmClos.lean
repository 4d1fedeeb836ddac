/-
  The closure that (History).Before hands to sort.Search, and sort.Search over it.
-/
import Derived.Test.YbulkbibmBefore
import Derived.Deep.RegionHeld3
import Derived.Deep.QuietTactic
import Derived.RowKit
namespace Go.Proofs.Ybulkbibm.Time
open Go.ChangeShapes Go.WideShapes Go.ChangeAt Go.RowKit
set_option linter.unusedVariables false

theorem kept {w w' : World} (hg : w.grownBy w' none) {a : Addr} {v : Value} (h : w.cell? a = some v) : w'.cell? a = some v := by
  have hb : a.block < w.heap.size := by
    unfold World.cell? at h
    by_cases hl : a.block < w.heap.size
    · exact hl
    · simp [hl] at h
  exact (World.cell?_of_block (hg.block a.block hb (by simp))).trans h

theorem grown_trans {a b c : World} {row : Option Nat} (h : a.grownBy b row) (k : b.grownBy c row) : a.grownBy c row :=
  ⟨k.os.trans h.os, k.tape.trans h.tape, k.output.trans h.output, Nat.le_trans h.size k.size, fun i hi hr => (k.block i (Nat.lt_of_lt_of_le hi h.size) hr).trans (h.block i hi hr)⟩
theorem grown_drew (w : World) (row : Option Nat) : w.grownBy w.drew row := ⟨rfl, rfl, rfl, Nat.le_refl _, fun _ _ _ => rfl⟩

/-- What the closure reads of holding number i. -/
def At (w : World) (g i : Nat) (W E : Int) : Prop :=
  w.cell? ⟨g, i * 6 + 1, none⟩ = some (.int .u64 W) ∧ w.cell? ⟨g, i * 6 + 2, none⟩ = some (.int .i64 E) ∧ w.cell? ⟨g, i * 6 + 3, none⟩ = some (.pointer none)

set_option maxRecDepth 100000 in
set_option maxHeartbeats 1000000 in
theorem clos_any (hb db g i n : Nat) (W E W2 E2 : Int) (w : World) (hi : i < n) (hn : n ≤ 1024)
    (ch : w.cell? ⟨hb, 2, none⟩ = some (.slice (some ⟨g, 0, none⟩) n n))
    (ha : At w g i W E)
    (d0 : w.cell? ⟨db, 0, none⟩ = some (.int .u64 W2)) (d1 : w.cell? ⟨db, 1, none⟩ = some (.int .i64 E2)) (d2 : w.cell? ⟨db, 2, none⟩ = some (.pointer none))
    (h0 : 0 ≤ W) (h1 : W < 1000000000) (k0 : 0 ≤ W2) (k1 : W2 < 1000000000) :
    Calls Yba.prog 12 #[.int .i64 (i : Int), .pointer (some ⟨hb, 0, none⟩), .pointer (some ⟨db, 0, none⟩)] w fun e w' =>
      e = .returned (.bool (!decide (W + 1000000000 * E < W2 + 1000000000 * E2))) ∧ w.grownBy w' none := by
  obtain ⟨a0, a1, a2⟩ := ha
  have b0 : (0 : Int) ≤ (i : Int) := by omega
  have b1 : (i : Int) < (n : Int) := by omega
  go_enter Yba.func12, Yba.ntmps12
  go_wp2_with fail
  go_region_held3 (fun w' => w'.cell? ⟨hb, 2, none⟩ = some (.slice (some ⟨g, 0, none⟩) n n) ∧ w'.cell? ⟨g, i * 6 + 1, none⟩ = some (.int .u64 W) ∧ w'.cell? ⟨g, i * 6 + 2, none⟩ = some (.int .i64 E) ∧ w'.cell? ⟨g, i * 6 + 3, none⟩ = some (.pointer none) ∧ w'.cell? ⟨db, 0, none⟩ = some (.int .u64 W2) ∧ w'.cell? ⟨db, 1, none⟩ = some (.int .i64 E2) ∧ w'.cell? ⟨db, 2, none⟩ = some (.pointer none))
    (first | (go_keep; done) | (go_split_ands; exact ⟨kept hgrow (by assumption), kept hgrow (by assumption), kept hgrow (by assumption), kept hgrow (by assumption), kept hgrow (by assumption), kept hgrow (by assumption), kept hgrow (by assumption)⟩)) (first | (go_at_call 6; refine (before_any W E W2 E2 _ h0 h1 k0 k1).mono ?_; rintro e w' ⟨rfl, hgrow⟩))
  go_wp2
  go_ret
  exact ⟨rfl, grown_trans (grown_drew w none) hgrow⟩

theorem At.kept {w w' : World} {g i : Nat} {W E : Int} (h : At w g i W E) (hg : w.grownBy w' none) : At w' g i W E :=
  ⟨Time.kept hg h.1, Time.kept hg h.2.1, Time.kept hg h.2.2⟩

set_option maxRecDepth 100000 in
set_option maxHeartbeats 1000000 in
theorem search_any (hb db g n c : Nat) (W E : Nat → Int) (W2 E2 : Int) (w : World) (hcn : c ≤ n) (hn : n ≤ 1024)
    (ch : w.cell? ⟨hb, 2, none⟩ = some (.slice (some ⟨g, 0, none⟩) n n))
    (ha : ∀ i, i < n → At w g i (W i) (E i))
    (d0 : w.cell? ⟨db, 0, none⟩ = some (.int .u64 W2)) (d1 : w.cell? ⟨db, 1, none⟩ = some (.int .i64 E2)) (d2 : w.cell? ⟨db, 2, none⟩ = some (.pointer none))
    (h0 : ∀ i, i < n → 0 ≤ W i ∧ W i < 1000000000) (k0 : 0 ≤ W2) (k1 : W2 < 1000000000)
    (lo : ∀ i, i < c → W i + 1000000000 * E i < W2 + 1000000000 * E2) (hi : ∀ i, c ≤ i → i < n → ¬ W i + 1000000000 * E i < W2 + 1000000000 * E2) :
    Calls Yba.prog 11 #[.int .i64 (n : Int), .func (.func 12) #[] #[.pointer (some ⟨hb, 0, none⟩), .pointer (some ⟨db, 0, none⟩)]] w fun e w' =>
      e = .returned (.int .i64 (c : Int)) ∧ w.grownBy w' none := by
  have HC := hide ch
  have HA := hide ha
  have D0 := hide d0
  have D1 := hide d1
  have D2 := hide d2
  have H0 := hide h0
  have LO := hide lo
  have HI := hide hi
  clear ch ha d0 d1 d2 h0 lo hi
  go_enter Yba.func11, Yba.ntmps11
  go_wp2
  go_loopw [5, 6] (fun s5 s6 wx => ∃ a b : Nat, a ≤ c ∧ c ≤ b ∧ b ≤ n ∧ s5 = .int .i64 (a : Int) ∧ s6 = .int .i64 (b : Int) ∧ w.grownBy wx none) (fun s5 s6 _ => (intOf s6).toNat - (intOf s5).toNat)
  case atStart => exact ⟨0, n, Nat.zero_le _, hcn, Nat.le_refl _, rfl, rfl, World.grownBy.refl _ _⟩
  case round =>
    obtain ⟨a, b, ha, hb', hbn, rfl, rfl, hg⟩ := hrel
    have HG := hide hg
    clear hg
    by_cases hab : a < b
    · go_wp2_with fail
      obtain ⟨m, hm⟩ : ∃ m : Nat, ((a : Int) + (b : Int)) / 2 = (m : Int) := ⟨(a + b) / 2, by omega⟩
      rw [hm]
      have hma : a ≤ m := by omega
      have hmb : m < b := by omega
      clear hm
      refine (clos_any hb db g m n (W m) (E m) W2 E2 wr (by omega) hn (kept HG.out HC.out) ((HA.out m (by omega)).kept HG.out) (kept HG.out D0.out) (kept HG.out D1.out) (kept HG.out D2.out) (H0.out m (by omega)).1 (H0.out m (by omega)).2 k0 k1).mono ?_
      rintro e w' ⟨rfl, hg2⟩
      have HG2 := hide (grown_trans HG.out hg2)
      clear hg2
      by_cases hmc : m < c
      · rw [decide_eq_true (LO.out m hmc)]
        go_wp2
        go_roundw
        case rel => exact ⟨m + 1, b, by omega, by omega, hbn, by go_num, rfl, HG2.out⟩
        case measure => simp [intOf]; omega
      · have hx := HI.out m (by omega) (by omega)
        rw [decide_eq_false (show ¬ W m + 1000000000 * E m < W2 + 1000000000 * E2 by omega)]
        clear hx
        go_wp2
        go_roundw
        case rel => exact ⟨a, m, by omega, by omega, by omega, rfl, rfl, HG2.out⟩
        case measure => simp [intOf]; omega
    · obtain rfl : a = c := by omega
      go_wp2_with fail
      go_ret
      exact ⟨rfl, HG.out⟩

end Go.Proofs.Ybulkbibm.Time

/-
  THE WALKS OF 'LawS2952BExact' AND 'LawS2952BOrder'.
-/
import Derived.Test.YbulkbicoRows
import Derived.Test.YbulkbicoOrder
import Derived.WalkKit
import Derived.ProofKit
import Derived.OpenShut
import Derived.WalkSpells
import Derived.WalkLawsBesides
import Derived.Laws.Cover2
import Derived.Laws.Externs
namespace Go.Proofs.Ybulkbico.Walk
open Go.ChangeShapes Go.WideShapes Go.ChangeAt Go.RowKit Go.Proofs.Ybulkbico.Order
set_option linter.unusedVariables false

theorem bits_run (b : Nat) (w : World) : (callFunc 6 #[.float .f64 b]).run Yba.prog w = .ok (.value (.int .u64 (b : Int))) w := by
  rw [run_callFunc_extern (e := Extern.MathFloatBits.float64bits) Yba.func6 (by kernel_rfl) (by kernel_rfl) (by kernel_rfl) (by kernel_rfl)]
  rfl

theorem clamp_lo (v lo hi : Nat) (w : World) (h1 : (FloatKind.f64.format.order v lo == some .lt) = true) :
    Calls Yba.prog 5 #[.float .f64 v, .float .f64 lo, .float .f64 hi] w fun e w' => e = .returned (.float .f64 lo) ∧ w = w' := by
  go_enter Yba.func5, Yba.ntmps5
  go_wp2
  go_ret
  exact ⟨rfl, rfl⟩

theorem clamp_hi (v lo hi : Nat) (w : World) (h1 : (FloatKind.f64.format.order v lo == some .lt) = false) (h2 : (FloatKind.f64.format.order v hi == some .gt) = true) :
    Calls Yba.prog 5 #[.float .f64 v, .float .f64 lo, .float .f64 hi] w fun e w' => e = .returned (.float .f64 hi) ∧ w = w' := by
  go_enter Yba.func5, Yba.ntmps5
  go_wp2
  go_ret
  exact ⟨rfl, rfl⟩

theorem clamp_mid (v lo hi : Nat) (w : World) (h1 : (FloatKind.f64.format.order v lo == some .lt) = false) (h2 : (FloatKind.f64.format.order v hi == some .gt) = false) :
    Calls Yba.prog 5 #[.float .f64 v, .float .f64 lo, .float .f64 hi] w fun e w' => e = .returned (.float .f64 v) ∧ w = w' := by
  go_enter Yba.func5, Yba.ntmps5
  go_wp2
  go_ret
  exact ⟨rfl, rfl⟩

theorem exact_walk (v lo hi : Nat) (w : World) : Calls Yba.prog 3 #[.float .f64 v, .float .f64 lo, .float .f64 hi] w fun e w' => e = .returned (.bool true) ∧ Grown w w' := by
  have hb := bits_run
  have s1 := lt_gt FloatKind.f64.format lo v
  have s2 := lt_gt FloatKind.f64.format v hi
  cases h1 : (FloatKind.f64.format.order v lo == some .lt) with
  | true =>
    rw [h1] at s1
    clear s2
    go_enter Yba.func3, Yba.ntmps3
    go_wp2_with (go_at_call 5; refine (clamp_lo _ _ _ _ h1).mono ?_; rintro e w' ⟨rfl, rfl⟩)
    go_ret
    exact ⟨rfl, Grown.refl _⟩
  | false =>
    rw [h1] at s1
    cases h2 : (FloatKind.f64.format.order v hi == some .gt) with
    | true =>
      rw [h2] at s2
      have s2' := s2.symm
      clear s2
      go_enter Yba.func3, Yba.ntmps3
      go_wp2_with (go_at_call 5; refine (clamp_hi _ _ _ _ h1 h2).mono ?_; rintro e w' ⟨rfl, rfl⟩)
      go_ret
      exact ⟨rfl, Grown.refl _⟩
    | false =>
      rw [h2] at s2
      have s2' := s2.symm
      clear s2
      go_enter Yba.func3, Yba.ntmps3
      go_wp2_with (go_at_call 5; refine (clamp_mid _ _ _ _ h1 h2).mono ?_; rintro e w' ⟨rfl, rfl⟩)
      go_ret
      exact ⟨rfl, Grown.refl _⟩

/-- What the order says where 'lo <= hi' and v is a number. -/
theorem facts {f : Ieee.Format} {v lo hi : Nat} (hle : (f.order lo hi == some .lt || f.order lo hi == some .eq) = true) (hv : (f.order v v != some .eq) = false) :
    f.order lo lo = some .eq ∧ f.order hi hi = some .eq ∧ f.order v v = some .eq ∧ (f.order lo hi == some .gt) = false ∧ (f.order hi lo == some .lt) = false ∧
    ((f.order v lo == some .lt) = true → (f.order lo v == some .lt || f.order lo v == some .eq) = false) ∧
    ((f.order v hi == some .gt) = true → (f.order v hi == some .lt || f.order v hi == some .eq) = false) ∧
    ((f.order v lo == some .lt) = false → (f.order lo v == some .lt || f.order lo v == some .eq) = true) ∧
    ((f.order v hi == some .gt) = false → (f.order v hi == some .lt || f.order v hi == some .eq) = true) := by
  have hvv : f.order v v = some .eq := by simpa using hv
  have hlh : f.order lo hi ≠ none := by intro e; rw [e] at hle; simp at hle
  have hhl : f.order hi lo ≠ none := by rw [word_swap f lo hi]; simpa using hlh
  have ll := word_self hlh
  have hh := word_self hhl
  have vlo : f.order v lo ≠ none := word_both (by simp [hvv]) (by simp [ll])
  have vhi : f.order v hi ≠ none := word_both (by simp [hvv]) (by simp [hh])
  have e1 := word_swap f v lo
  have e2 := word_swap f lo hi
  refine ⟨ll, hh, hvv, ?_, ?_, ?_, ?_, ?_, ?_⟩
  · cases h : f.order lo hi with
    | none => rfl
    | some o => cases o <;> simp_all
  · rw [e2]
    cases h : f.order lo hi with
    | none => rfl
    | some o => cases o <;> simp_all
  · rw [e1]
    cases h : f.order v lo with
    | none => simp
    | some o => cases o <;> simp
  · cases h : f.order v hi with
    | none => simp
    | some o => cases o <;> simp
  · rw [e1]
    cases h : f.order v lo with
    | none => exact absurd h vlo
    | some o => cases o <;> simp
  · cases h : f.order v hi with
    | none => exact absurd h vhi
    | some o => cases o <;> simp

set_option maxHeartbeats 1000000 in
theorem order_walk (v lo hi : Nat) (w : World) : Calls Yba.prog 4 #[.float .f64 v, .float .f64 lo, .float .f64 hi] w fun e w' => e = .returned (.bool true) ∧ Grown w w' := by
  have hb := bits_run
  cases hle : (FloatKind.f64.format.order lo hi == some .lt || FloatKind.f64.format.order lo hi == some .eq) with
  | false =>
    go_enter Yba.func4, Yba.ntmps4
    go_wp2
    go_ret
    exact ⟨rfl, Grown.refl _⟩
  | true =>
    cases hv : (FloatKind.f64.format.order v v != some .eq) with
    | true =>
      go_enter Yba.func4, Yba.ntmps4
      go_wp2
      go_ret
      exact ⟨rfl, Grown.refl _⟩
    | false =>
      obtain ⟨ll, hh, hvv, f1, f2, f3, f4, f5, f6⟩ := facts hle hv
      have gll : (FloatKind.f64.format.order lo lo == some .lt) = false := by rw [ll]; rfl
      have ghh : (FloatKind.f64.format.order hi hi == some .gt) = false := by rw [hh]; rfl
      cases h1 : (FloatKind.f64.format.order v lo == some .lt) with
      | true =>
        have g3 := f3 h1
        clear f3 f4 f5 f6
        go_enter Yba.func4, Yba.ntmps4
        go_wp2_with fail
        refine (clamp_lo v lo hi _ h1).mono ?_
        rintro e w' ⟨rfl, rfl⟩
        go_wp2_with (go_at_call 5; refine (clamp_mid lo lo hi _ gll f1).mono ?_; rintro e w' ⟨rfl, rfl⟩)
        go_ret
        exact ⟨rfl, Grown.refl _⟩
      | false =>
        have g5 := f5 h1
        cases h2 : (FloatKind.f64.format.order v hi == some .gt) with
        | true =>
          have g4 := f4 h2
          clear f3 f4 f5 f6
          go_enter Yba.func4, Yba.ntmps4
          go_wp2_with fail
          refine (clamp_hi v lo hi _ h1 h2).mono ?_
          rintro e w' ⟨rfl, rfl⟩
          go_wp2_with (go_at_call 5; refine (clamp_mid hi lo hi _ f2 ghh).mono ?_; rintro e w' ⟨rfl, rfl⟩)
          go_ret
          exact ⟨rfl, Grown.refl _⟩
        | false =>
          have g6 := f6 h2
          clear f3 f4 f5 f6
          go_enter Yba.func4, Yba.ntmps4
          go_wp2_with (go_at_call 5; refine (clamp_mid v lo hi _ h1 h2).mono ?_; rintro e w' ⟨rfl, rfl⟩)
          go_ret
          exact ⟨rfl, Grown.refl _⟩

end Go.Proofs.Ybulkbico.Walk

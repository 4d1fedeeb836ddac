/-
  THE PLAIN LAW OF FLOATS' ORDER: no Go in sight.
-/
import Ieee.Arith
namespace Go.Proofs.Ybulkbico.Order
open Ieee

theorem cmp_swap (x y : Int) : compare y x = (compare x y).swap := by
  simp only [compare, compareOfLessAndEq]
  rcases Int.lt_trichotomy x y with h | h | h
  · have h1 : ¬ y < x := by omega
    have h2 : ¬ y = x := by omega
    simp [h, h1, h2]
  · subst h
    simp
  · have h1 : ¬ x < y := by omega
    have h2 : ¬ x = y := by omega
    simp [h, h1, h2]

theorem cmpN_swap (x y : Nat) : compare y x = (compare x y).swap := by
  simp only [compare, compareOfLessAndEq]
  rcases Nat.lt_trichotomy x y with h | h | h
  · have h1 : ¬ y < x := by omega
    have h2 : ¬ y = x := by omega
    simp [h, h1, h2]
  · subst h
    simp
  · have h1 : ¬ x < y := by omega
    have h2 : ¬ x = y := by omega
    simp [h, h1, h2]

theorem swap (a b : Datum) : b.order a = (a.order b).map Ordering.swap := by
  cases a with
  | nan s f => cases b <;> rfl
  | infinity s =>
    cases b with
    | nan t f => rfl
    | infinity t => simp [Datum.order, cmpN_swap t.toNat s.toNat]
    | number t n j => cases s <;> rfl
  | number s m i =>
    cases b with
    | nan t f => rfl
    | infinity t => cases t <;> rfl
    | number t n j =>
      simp only [Datum.order, Option.map_some]
      rw [Int.min_comm j i, cmp_swap]

theorem self_of {a b : Datum} (h : a.order b ≠ none) : a.order a = some .eq := by
  cases a with
  | nan s f => cases b <;> exact absurd rfl h
  | infinity s => simp [Datum.order, compare, compareOfLessAndEq]
  | number s m i => simp [Datum.order, compare, compareOfLessAndEq]

theorem both {a b : Datum} (ha : a.order a ≠ none) (hb : b.order b ≠ none) : a.order b ≠ none := by
  cases a with
  | nan s f => exact absurd rfl ha
  | infinity s => cases b <;> first | exact absurd rfl hb | simp [Datum.order]
  | number s m i => cases b <;> first | exact absurd rfl hb | simp [Datum.order]

/-- The same, at words. -/
theorem word_swap (f : Format) (x y : Nat) : f.order y x = (f.order x y).map Ordering.swap := swap (f.read x) (f.read y)
theorem word_self {f : Format} {x y : Nat} (h : f.order x y ≠ none) : f.order x x = some .eq := self_of h
theorem word_both {f : Format} {x y : Nat} (hx : f.order x x ≠ none) (hy : f.order y y ≠ none) : f.order x y ≠ none := both hx hy

/-- 'a < b' is 'b > a'. -/
theorem lt_gt (f : Format) (x y : Nat) : (f.order x y == some .gt) = (f.order y x == some .lt) := by
  rw [word_swap f x y]
  cases f.order x y with
  | none => rfl
  | some o => cases o <;> rfl

end Go.Proofs.Ybulkbico.Order

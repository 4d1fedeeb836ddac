/-
  What the walk of 'LawS2950CBefore' carries: rows of structs whose first fields are known; the slices that came in.
-/
import Derived.Test.YbulkbibmPast
namespace Go.Proofs.Ybulkbibm.Time
open Go.ChangeShapes Go.WideShapes Go.ChangeAt Go.RowKit
set_option linter.unusedVariables false

def upd (f : Nat → Int) (i : Nat) (x : Int) : Nat → Int := fun j => if j = i then x else f j
theorem upd_same (f : Nat → Int) (i : Nat) (x : Int) : upd f i x i = x := by simp [upd]
theorem upd_other (f : Nat → Int) {i j : Nat} (x : Int) (h : j ≠ i) : upd f i x j = f j := by simp [upd, h]

/-- A row of n structs of sz cells in block g: of the first i the date and the shares are known. -/
def Rowed (w : World) (g : Nat) (t : TypeId) (sz n i : Nat) (W E : Nat → Int) : Prop :=
  ∃ f, w.rowIs g t (n * sz) f ∧ ∀ j, j < i → f (j * sz + 1) = .int .u64 (W j) ∧ f (j * sz + 2) = .int .i64 (E j) ∧ f (j * sz + 3) = .pointer none ∧ f (j * sz + 4) = .int .i64 (j : Int)

theorem Rowed.kept {w w' : World} {g : Nat} {t : TypeId} {sz n i : Nat} {W E : Nat → Int} {row : Option Nat} (h : Rowed w g t sz n i W E) (hg : w.grownBy w' row) (hr : row ≠ some g) : Rowed w' g t sz n i W E := by
  obtain ⟨f, hf, hv⟩ := h
  exact ⟨f, row_kept hf hg hr, hv⟩

theorem Rowed.lt {w : World} {g : Nat} {t : TypeId} {sz n i : Nat} {W E : Nat → Int} (h : Rowed w g t sz n i W E) : g < w.heap.size := by
  obtain ⟨f, hf, hv⟩ := h
  exact hf.lt

theorem Rowed.made (w : World) (Z : Array Value) (t : TypeId) (sz n : Nat) (hZ : Z.size = n * sz) (W E : Nat → Int) : Rowed (w.alloc (.cells Z t)) w.heap.size t sz n 0 W E := by
  refine ⟨fun j => Z[j]?.getD default, ?_, by simp⟩
  have hr := World.rowIs_alloc w Z t (fun j => Z[j]?.getD default) (fun i hi => by rw [Array.getElem?_eq_getElem hi]; rfl)
  rwa [hZ] at hr

theorem mul_le (i n sz : Nat) (h : i < n) : i * sz + sz ≤ n * sz := by
  have := Nat.mul_le_mul_right sz (show i + 1 ≤ n by omega)
  rw [Nat.succ_mul] at this
  exact this

theorem Rowed.at {w : World} {g : Nat} {t : TypeId} {sz n i : Nat} {W E : Nat → Int} (h : Rowed w g t sz n i W E) (h5 : 5 ≤ sz) {j : Nat} (hj : j < i) (hn : i ≤ n) :
    w.cell? ⟨g, j * sz + 1, none⟩ = some (.int .u64 (W j)) ∧ w.cell? ⟨g, j * sz + 2, none⟩ = some (.int .i64 (E j)) ∧ w.cell? ⟨g, j * sz + 3, none⟩ = some (.pointer none) ∧ w.cell? ⟨g, j * sz + 4, none⟩ = some (.int .i64 (j : Int)) := by
  obtain ⟨f, hf, hv⟩ := h
  obtain ⟨v1, v2, v3, v4⟩ := hv j hj
  have hm := mul_le j n sz (by omega)
  rw [hf.cell (by omega), hf.cell (by omega), hf.cell (by omega), hf.cell (by omega), v1, v2, v3, v4]
  exact ⟨rfl, rfl, rfl, rfl⟩

/-- 'row[i] = T{Date: .., Shares: i}'. -/
theorem Rowed.put {w w2 : World} {g : Nat} {t : TypeId} {sz n i : Nat} {W E : Nat → Int} (f : Nat → Value) (hv : ∀ j, j < i → f (j * sz + 1) = .int .u64 (W j) ∧ f (j * sz + 2) = .int .i64 (E j) ∧ f (j * sz + 3) = .pointer none ∧ f (j * sz + 4) = .int .i64 (j : Int))
    (cells : Array Value) (hs : cells.size = sz) (h5 : 5 ≤ sz) (Wc Ec : Int)
    (c1 : cells[1]? = some (.int .u64 Wc)) (c2 : cells[2]? = some (.int .i64 Ec)) (c3 : cells[3]? = some (.pointer none)) (c4 : cells[4]? = some (.int .i64 (i : Int)))
    (hrow : w2.rowIs g t (n * sz) (fun j => if i * sz ≤ j ∧ j < i * sz + cells.size then cells[j - i * sz]?.getD default else f j)) :
    Rowed w2 g t sz n (i + 1) (upd W i Wc) (upd E i Ec) := by
  refine ⟨_, hrow, fun j hj => ?_⟩
  by_cases hji : j = i
  · subst hji
    rw [upd_same, upd_same]
    refine ⟨?_, ?_, ?_, ?_⟩
    · rw [if_pos (by omega), show j * sz + 1 - j * sz = 1 by omega, c1]; rfl
    · rw [if_pos (by omega), show j * sz + 2 - j * sz = 2 by omega, c2]; rfl
    · rw [if_pos (by omega), show j * sz + 3 - j * sz = 3 by omega, c3]; rfl
    · rw [if_pos (by omega), show j * sz + 4 - j * sz = 4 by omega, c4]; rfl
  · rw [upd_other _ _ hji, upd_other _ _ hji]
    have hm := mul_le j i sz (by omega)
    obtain ⟨v1, v2, v3, v4⟩ := hv j (by omega)
    refine ⟨?_, ?_, ?_, ?_⟩
    · rw [if_neg (by omega)]; exact v1
    · rw [if_neg (by omega)]; exact v2
    · rw [if_neg (by omega)]; exact v3
    · rw [if_neg (by omega)]; exact v4

/-- A slice that came in. -/
def Src (k : IntKind) (w : World) (a : Option Addr) (len : Nat) (D : Nat → Int) : Prop :=
  ∀ i, i < len → ∃ b off, a = some ⟨b, off, none⟩ ∧ w.cell? ⟨b, off + i, none⟩ = some (.int k (D i))

theorem below_cell {w w' : World} (hb : Below w.heap.size w w') {a : Addr} {v : Value} (h : w.cell? a = some v) : w'.cell? a = some v := by
  have hl : a.block < w.heap.size := by
    unfold World.cell? at h
    by_cases hl : a.block < w.heap.size
    · exact hl
    · simp [hl] at h
  exact (World.cell?_of_block (hb.block a.block hl)).trans h

def timeF (W E : Int) : Nat → Value := fun j => if j = 0 then .int .u64 W else if j = 1 then .int .i64 E else .pointer none

/-- Below, behind a change of new blocks alone. -/
theorem Below.more {w w1 w2 : World} {row : Option Nat} (h : Below w.heap.size w w1) (hg : w1.grownBy w2 row) (hr : ∀ b, row = some b → w.heap.size ≤ b) : Below w.heap.size w w2 :=
  Below.grown h hg h.size hr

/-- The state of the first loop. -/
structure Inv1 (w wr : World) (g tb n i : Nat) (W E : Nat → Int) (Wc Ec : Int) : Prop where
  bel : Below w.heap.size w wr
  lg : w.heap.size ≤ g
  lt : w.heap.size ≤ tb
  ne : g ≠ tb
  row : Rowed wr g 34 6 n i W E
  trow : wr.rowIs tb 30 3 (timeF Wc Ec)
  hw : ∀ j, j < i → 0 ≤ W j ∧ W j < 1000000000
  cw : 0 ≤ Wc ∧ Wc < 1000000000
  rng : -32768 ≤ Wc + 1000000000 * Ec ∧ Wc + 1000000000 * Ec ≤ 32767 + 255 * (i : Int)
  mono : ∀ a b, a ≤ b → b < i → W a + 1000000000 * E a ≤ W b + 1000000000 * E b
  top : ∀ a, a < i → W a + 1000000000 * E a ≤ Wc + 1000000000 * Ec

theorem Inv1.step {w wr w3 : World} {g tb n i : Nat} {W E : Nat → Int} {Wc Ec : Int} (h : Inv1 w wr g tb n i W E Wc Ec) (d W' E' : Int) (d0 : 0 ≤ d) (d1 : d ≤ 255)
    (hw : 0 ≤ W' ∧ W' < 1000000000) (he : W' + 1000000000 * E' = Wc + 1000000000 * Ec + d) (bel : Below w.heap.size w w3) (row : Rowed w3 g 34 6 n (i + 1) (upd W i W') (upd E i E')) (trow : w3.rowIs tb 30 3 (timeF W' E')) :
    Inv1 w w3 g tb n (i + 1) (upd W i W') (upd E i E') W' E' := by
  have hr := h.rng
  refine ⟨bel, h.lg, h.lt, h.ne, row, trow, fun j hj => ?_, hw, ⟨by omega, by omega⟩, fun a b hab hb => ?_, fun a ha => ?_⟩
  · by_cases hji : j = i
    · subst hji; rw [upd_same]; exact hw
    · rw [upd_other _ _ hji]; exact h.hw j (by omega)
  · by_cases hbi : b = i
    · subst hbi
      rw [upd_same, upd_same]
      by_cases hai : a = b
      · subst hai; rw [upd_same, upd_same]; omega
      · rw [upd_other _ _ hai, upd_other _ _ hai]
        have := h.top a (by omega)
        omega
    · rw [upd_other _ _ hbi, upd_other _ _ hbi, upd_other _ _ (by omega), upd_other _ _ (by omega)]
      exact h.mono a b hab (by omega)
  · by_cases hai : a = i
    · subst hai; rw [upd_same, upd_same]; omega
    · rw [upd_other _ _ hai, upd_other _ _ hai]
      have := h.top a (by omega)
      omega

/-- The state of the second loop. -/
structure Inv2 (w wx : World) (g gc n m i : Nat) (W E W2 E2 : Nat → Int) : Prop where
  bel : Below w.heap.size w wx
  lg : w.heap.size ≤ g
  lc : w.heap.size ≤ gc
  ne : g ≠ gc
  row : Rowed wx g 34 6 n n W E
  crow : Rowed wx gc 38 10 m i W2 E2
  hw : ∀ j, j < i → 0 ≤ W2 j ∧ W2 j < 1000000000

theorem Inv2.later {w wx wy : World} {g gc n m i : Nat} {W E W2 E2 : Nat → Int} (h : Inv2 w wx g gc n m i W E W2 E2) (hg : wx.grownBy wy none) : Inv2 w wy g gc n m i W E W2 E2 :=
  ⟨Below.more h.bel hg (by simp), h.lg, h.lc, h.ne, h.row.kept hg (by simp), h.crow.kept hg (by simp), h.hw⟩

theorem Inv2.step {w wx wy : World} {g gc n m i : Nat} {W E W2 E2 : Nat → Int} (h : Inv2 w wx g gc n m i W E W2 E2) (W' E' : Int) (hw : 0 ≤ W' ∧ W' < 1000000000) (hg : wx.grownBy wy (some gc))
    (hr : Rowed wy gc 38 10 m (i + 1) (upd W2 i W') (upd E2 i E')) : Inv2 w wy g gc n m (i + 1) W E (upd W2 i W') (upd E2 i E') := by
  refine ⟨Below.more h.bel hg (by rintro b ⟨⟩; exact h.lc), h.lg, h.lc, h.ne, h.row.kept hg (by simpa using fun e => h.ne e.symm), hr, fun j hj => ?_⟩
  by_cases hji : j = i
  · subst hji; rw [upd_same]; exact hw
  · rw [upd_other _ _ hji]; exact h.hw j (by omega)

/-- The boundary: how many of the first n lie before D. -/
theorem boundary (T : Nat → Int) (D : Int) : ∀ n : Nat, (∀ a b, a ≤ b → b < n → T a ≤ T b) → ∃ c, c ≤ n ∧ (∀ i, i < c → T i < D) ∧ ∀ i, c ≤ i → i < n → ¬ T i < D
  | 0, _ => ⟨0, Nat.le_refl _, by simp, by simp⟩
  | n + 1, hm => by
    obtain ⟨c, hc, h1, h2⟩ := boundary T D n (fun a b hab hb => hm a b hab (by omega))
    by_cases hcn : c = n
    · subst hcn
      by_cases hT : T c < D
      · exact ⟨c + 1, Nat.le_refl _, fun i hi => by
          by_cases e : i = c
          · subst e; exact hT
          · exact h1 i (by omega), fun i a b => by omega⟩
      · exact ⟨c, by omega, h1, fun i a b => by
          have : i = c := by omega
          subst this; exact hT⟩
    · refine ⟨c, by omega, h1, fun i a b => ?_⟩
      have hc1 := h2 c (Nat.le_refl _) (by omega)
      have := hm c i a (by omega)
      omega

end Go.Proofs.Ybulkbibm.Time

/-
  FOR THE WALK OF 'LawS2948CJoin': the state on its road.
-/
import Derived.Test.YbulkbiakJoinCall
import Derived.Deep.DeepCutAuto
namespace Go.Proofs.Ybulkbiak.lawS2948CJoin
open Go.ChangeShapes Go.WideShapes Go.ChangeAt Go.RowKit Go.Proofs.Ybulkbiak.JoinParts
set_option linter.unusedVariables false

theorem size21 : (Yba.prog.info? 21).map (·.size) = some 1 := by kernel_rfl

/-- A slice's elements, where there are any. -/
def Src (w : World) (a : Option Addr) (len : Nat) (Z : Nat → Int) : Prop := 0 < len → ∃ ad, a = some ad ∧ ∀ j, j < len → w.cell? (ad.add j) = some (.int .i32 (Z j))

theorem Src.later {w w' : World} {a : Option Addr} {len : Nat} {Z : Nat → Int} (h : Src w a len Z) (hg : w.grownBy w' none) : Src w' a len Z := fun h0 => by
  obtain ⟨ad, rfl, hc⟩ := h h0
  refine ⟨ad, rfl, fun j hj => ?_⟩
  have := hc j hj
  rw [World.cell?_of_block (w := w) (hg.block _ (World.block_lt_of_cell? w _ this) (by simp))]
  exact this

theorem Src.cut {w : World} {a : Option Addr} {len n : Nat} {Z : Nat → Int} (h : Src w a len Z) : 0 < min len n → ∃ ad, a = some ad ∧ ∀ j, j < min len n → w.cell? (ad.add j) = some (.int .i32 (Z j)) := fun h0 => by
  obtain ⟨ad, rfl, hc⟩ := h (by omega)
  exact ⟨ad, rfl, fun j hj => hc j (by omega)⟩

theorem src_row {w : World} {b n : Nat} {f : Nat → Int} (h : w.rowIs b 21 n (fun i => .int .i32 (f i))) : Src w (some ⟨b, 0, none⟩) n f := fun _ =>
  ⟨_, rfl, fun j hj => by
    have := h.cell hj
    rw [add_plain, Nat.zero_add]
    exact this⟩

/-- Behind the switch: the two rows that the builder will have. -/
structure Mid (w w3 : World) (b1 n : Nat) (bin al : Nat → Int) : Prop where
  r0 : w3.rowIs w.heap.size 21 n (fun i => .int .i32 (bin i))
  r1 : w3.rowIs b1 21 n (fun i => .int .i32 (al i))
  lt : w.heap.size < b1 ∧ b1 < w3.heap.size
  gr : w.grownBy w3 none

theorem Mid.of {w w1 w2 : World} {n len1 : Nat} {Z0 Z1 : Nat → Int} (r1 : w1.rowIs w.heap.size 21 n fun i => Value.int .i32 (if i < n then Z0 i else 0)) (g1 : w.grownBy w1 none) (z1 : w.heap.size < w1.heap.size)
    (r2 : w2.rowIs w1.heap.size 21 n fun i => Value.int .i32 (if i < len1 then Z1 i else 0)) (g2 : w1.grownBy w2 none) (z2 : w1.heap.size < w2.heap.size) :
    Mid w w2 w1.heap.size n (fun i => if i < n then Z0 i else 0) (fun i => if i < len1 then Z1 i else 0) :=
  ⟨row_kept r1 g2 (by simp), r2, ⟨z1, z2⟩, grown_trans g1 g2⟩

theorem Mid.set {w w3 : World} {b1 n : Nat} {bin al : Nat → Int} (h : Mid w w3 b1 n bin al) (t : Nat) (x : Int) : Mid w (w3.setCell ⟨w.heap.size, t, none⟩ (.int .i32 x)) b1 n (upd bin t x) al := by
  have hg := grown_setCell w3 w.heap.size t (.int .i32 x)
  have hl := h.lt
  refine ⟨(h.r0.set t (.int .i32 x)).congr fun i _ => ?_, row_kept h.r1 hg (by simp; omega), ⟨hl.1, by simpa using hl.2⟩, ⟨h.gr.os, h.gr.tape, h.gr.output, by simpa using h.gr.size, fun k hk _ => ?_⟩⟩
  · unfold upd
    split <;> rfl
  · rw [hg.block k (Nat.lt_of_lt_of_le hk h.gr.size) (by simp; omega)]
    exact h.gr.block k hk (by simp)

theorem owns_of_row {w : World} {B b m : Nat} {Z : Nat → Int} (h : w.rowIs b 21 m (fun i => .int .i32 (Z i))) (hB : B ≤ b) (hm : m ≤ maxLen) :
    w.ownsRow B 21 1 (.slice (some ⟨b, 0, none⟩) m m) ((List.range m).map Z).length (((List.range m).map Z).map (Value.int .i32)) := by
  obtain ⟨cur, hb, hs, hc⟩ := h
  refine ⟨by simp, .inr ⟨b, m, cur, by simp, hB, hb, by simp, hm, by omega, ?_⟩⟩
  apply List.ext_getElem?
  intro j
  by_cases hj : j < m
  · have := hc j hj
    simp [hj]
    simpa using this
  · simp [hj]
    omega

/-- The state at the call of 'join'. -/
theorem JS.of {w w3 w4 w5 w6 : World} {b1 n m : Nat} {bin al Z2 : Nat → Int} {gid com : Int} (M : Mid w w3 b1 n bin al) (g3 : w3.grownBy w4 none) (g4 : w4.grownBy w5 none) (g5 : w5.grownBy w6 none)
    (r5 : w6.rowIs w5.heap.size 21 m fun i => Value.int .i32 (Z2 i)) (hm : m ≤ 1024) :
    JS ((w6.alloc (Obj.cells #[.slice none 0 0, .slice none 0 0, .int .i32 7, .int .i32 3, .slice (some ⟨w.heap.size, 0, none⟩) n n, .slice (some ⟨b1, 0, none⟩) n n] 26)).alloc (Obj.cells #[.int .i32 gid, .int .u8 2, .slice (some ⟨w5.heap.size, 0, none⟩) m m, .int .i64 com] 30))
      w.heap.size w.heap.size b1 w6.heap.size (w6.heap.size + 1) n bin al (.slice (some ⟨w5.heap.size, 0, none⟩) m m) gid com ((List.range m).map Z2) := by
  have hl := M.lt
  have s3 := g3.size
  have s4 := g4.size
  have s5 := g5.size
  have lt5 := r5.lt
  have g36 : w3.grownBy w6 none := grown_trans (grown_trans g3 g4) g5
  have gA := grown_alloc w6 (Obj.cells #[.slice none 0 0, .slice none 0 0, .int .i32 7, .int .i32 3, .slice (some ⟨w.heap.size, 0, none⟩) n n, .slice (some ⟨b1, 0, none⟩) n n] 26)
  have gB := grown_alloc (w6.alloc (Obj.cells #[.slice none 0 0, .slice none 0 0, .int .i32 7, .int .i32 3, .slice (some ⟨w.heap.size, 0, none⟩) n n, .slice (some ⟨b1, 0, none⟩) n n] 26)) (Obj.cells #[.int .i32 gid, .int .u8 2, .slice (some ⟨w5.heap.size, 0, none⟩) m m, .int .i64 com] 30)
  have g6 := grown_trans gA gB
  refine ⟨row_kept (row_kept M.r0 g36 (by simp)) g6 (by simp), row_kept (row_kept M.r1 g36 (by simp)) g6 (by simp), ?_, ?_, ?_, by omega, by simp [Value.ownBlock]; omega, by simp [Value.ownBlock]; omega, by omega⟩
  · rw [Below.heap_alloc _ _ _ (by simp)]
    exact heap_alloc_new w6 _
  · have := heap_alloc_new (w6.alloc (Obj.cells #[.slice none 0 0, .slice none 0 0, .int .i32 7, .int .i32 3, .slice (some ⟨w.heap.size, 0, none⟩) n n, .slice (some ⟨b1, 0, none⟩) n n] 26)) (Obj.cells #[.int .i32 gid, .int .u8 2, .slice (some ⟨w5.heap.size, 0, none⟩) m m, .int .i64 com] 30)
    simpa using this
  · have := owns_of_row (B := w.heap.size) (row_kept r5 g6 (by simp)) (by omega) (by unfold maxLen; omega)
    exact this

/-- What the group's row of transactions holds. -/
theorem tx_cells {w : World} {B L : Nat} {tv : Value} {txs : List Int} (h : w.ownsRow B 21 1 tv txs.length (txs.map (Value.int .i32))) (hL : txs.length = L) (h0 : 0 < L) :
    ∃ g cv, tv = .slice (some ⟨g, 0, none⟩) L cv ∧ L ≤ cv ∧ cv ≤ maxLen ∧ ∀ j, j < L → w.cell? ⟨g, j, none⟩ = some (.int .i32 (txs.getD j 0)) := by
  subst hL
  rcases h.2 with ⟨_, h1⟩ | ⟨g, cap, cur, rfl, _, _, h3, h4, _⟩
  · omega
  · refine ⟨g, cap, rfl, h3, h4, fun j hj => ?_⟩
    rw [h.cellAt j (by omega)]
    simp [hj]

theorem tx_form {w : World} {B L : Nat} {tv : Value} {txs : List Int} (h : w.ownsRow B 21 1 tv txs.length (txs.map (Value.int .i32))) (hL : txs.length = L) : ∃ av cv, tv = .slice av L cv := by
  subst hL
  rcases h.2 with ⟨rfl, h1⟩ | ⟨g, cap, cur, rfl, _⟩
  · exact ⟨none, 0, by rw [h1]⟩
  · exact ⟨_, _, rfl⟩

theorem only_row {w w' : World} {b0 b1 b6 b n : Nat} {tv : Value} {f : Nat → Value} (ho : Only w w' b0 b1 b6 tv) (h : w.rowIs b 21 n f) (h0 : b ≠ b0) (h1 : b ≠ b1) (h6 : b ≠ b6) (ht : tv.ownBlock ≠ some b) : w'.rowIs b 21 n f := by
  obtain ⟨c, hc, r⟩ := h
  exact ⟨c, ho b _ hc h0 h1 h6 ht, r⟩

theorem plain_at {w : World} {ad : Addr} {m : Nat} {Z : Nat → Int} (h : ∀ j, j < m → w.cell? (ad.add j) = some (.int .i32 (Z j))) (h0 : 0 < m) :
    ∃ b o, ad = ⟨b, o, none⟩ ∧ ∀ j, j < m → w.cell? ⟨b, o + j, none⟩ = some (.int .i32 (Z j)) := by
  obtain ⟨b, o, spot⟩ := ad
  have hspot : spot = none := by simpa [Addr.add] using World.cell?_spot (h 0 h0)
  subst hspot
  exact ⟨b, o, rfl, fun j hj => by rw [← add_plain]; exact h j hj⟩

/-- The builder's and the group's cells behind the call. -/
theorem JS_more {w : World} {B b0 b1 b5 b6 n : Nat} {bin al : Nat → Int} {tv : Value} {gid com : Int} {txs : List Int} (h : JS w B b0 b1 b5 b6 n bin al tv gid com txs) :
    w.cell? ⟨b5, 0, none⟩ = some (.slice none 0 0) ∧ w.cell? ⟨b5, 1, none⟩ = some (.slice none 0 0) ∧ w.cell? ⟨b5, 2, none⟩ = some (.int .i32 7) ∧ w.cell? ⟨b5, 3, none⟩ = some (.int .i32 3) ∧ w.cell? ⟨b6, 1, none⟩ = some (.int .u8 2) := by
  refine ⟨?_, ?_, ?_, ?_, ?_⟩ <;> simp [World.cell?, h.bb, h.gg]

end Go.Proofs.Ybulkbiak.lawS2948CJoin

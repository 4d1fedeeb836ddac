/-
  Stores of whole structs: into a variable just made; into an element of a row. What is left of the world is told by 'rowIs' and 'grownBy'.
-/
import Derived.Test.YbulkbibmClos
import Derived.Deep.MidRow
import Derived.Deep.OwnRows
import Derived.Lib.LazyBuf
namespace Go.Proofs.Ybulkbibm.Time
open Go.ChangeShapes Go.WideShapes Go.ChangeAt Go.RowKit
set_option linter.unusedVariables false

theorem cell_lt {w : World} {b o : Nat} {v : Value} (h : w.cell? ⟨b, o, none⟩ = some v) : b < w.heap.size := by
  unfold World.cell? at h
  by_cases hl : b < w.heap.size
  · exact hl
  · simp [hl] at h

theorem grown_setCell (w : World) (c o : Nat) (u : Value) : w.grownBy (w.setCell ⟨c, o, none⟩ u) (some c) :=
  ⟨rfl, rfl, rfl, by simp, fun k _ hk => Below.heap_setCell _ _ _ _ (fun e => hk (by rw [e]))⟩

theorem grown_setCells (c : Nat) : ∀ (vs : List Value) (o : Nat) (w : World), w.grownBy (w.setCells c o vs) (some c)
  | [], _, w => World.grownBy.refl _ _
  | v :: r, o, w => by
    rw [World.setCells]
    exact grown_trans (grown_setCell w c o v) (grown_setCells c r (o + 1) _)

/-- What was written is a new block: all else stands. -/
theorem grown_new {w w' : World} {o : Obj} {row : Option Nat} (h : (w.alloc o).grownBy w' row) (hr : ∀ b, row = some b → w.heap.size ≤ b) : w.grownBy w' none ∧ w.heap.size < w'.heap.size := by
  have hs := h.size
  simp at hs
  refine ⟨⟨h.os, h.tape, h.output, by omega, fun k hk _ => ?_⟩, by omega⟩
  rw [h.block k (by simp; omega) (fun e => by have := hr k e.symm; omega)]
  exact Below.heap_alloc w o k hk

theorem row_kept {w w' : World} {row : Option Nat} {b n : Nat} {t : TypeId} {f : Nat → Value} (h : w.rowIs b t n f) (hg : w.grownBy w' row) (hr : row ≠ some b) : w'.rowIs b t n f :=
  h.of_block (hg.block b h.lt (fun e => hr e.symm))

theorem kept_other {w w' : World} {c : Nat} (hg : w.grownBy w' (some c)) {a : Addr} {v : Value} (h : w.cell? a = some v) (hne : a.block ≠ c) : w'.cell? a = some v := by
  have hb : a.block < w.heap.size := by
    unfold World.cell? at h
    by_cases hl : a.block < w.heap.size
    · exact hl
    · simp [hl] at h
  exact (World.cell?_of_block (hg.block a.block hb (by simpa using hne))).trans h

section
variable {P : Program} {Q : Exit → Act → World → Prop}

/-- 'x := (a whole struct)': the store into the variable that was just made. -/
theorem wpList_store_new {ops : Array Oper} {rest : List Oper} {op : Oper} {a : Act} (w1 : World) (Z : Array Value) (t : TypeId) (n : Nat) (hgd : op.guard = none) (ty : TypeId) (x y : Operand) (ho : op.op = .store ty x y)
    (cells : Array Value) (hx : a.eval x = .pointer (some ⟨w1.heap.size, 0, none⟩)) (hy : a.eval y = .agg cells)
    (hn : cells.size = n) (hZ : Z.size = n) (hi : (P.info? ty).map (·.size) = some n) (h1 : cells.all (·.oneCell') = true)
    (h : ∀ w2, w1.grownBy w2 none → w1.heap.size < w2.heap.size → w2.rowIs w1.heap.size t n (fun j => cells[j]?.getD default) → wpList P ops Q rest (a.put op.dst undef) w2) :
    wpList P ops Q (op :: rest) a (w1.alloc (.cells Z t)) := by
  subst hn
  have hr := World.rowIs_alloc w1 Z t (fun j => Z[j]?.getD default) (fun i hi => by rw [Array.getElem?_eq_getElem hi]; rfl)
  rw [hZ] at hr
  refine wpList_store_mid hgd ty x y ho w1.heap.size 0 cells hx hy (fun j hj => ?_) hi h1 ?_
  · rw [Nat.zero_add, hr.cell hj]
    exact ⟨rfl, hr.frozen j⟩
  · have hg := grown_new (grown_setCells w1.heap.size cells.toList 0 (w1.alloc (.cells Z t))) (by simp)
    refine h _ hg.1 hg.2 ((rowIs_setCells cells.toList 0 _ _ hr).congr fun j hj => ?_)
    simp [hj]

/-- 'row[i] = (a whole struct)'. -/
theorem wpList_store_elem {ops : Array Oper} {rest : List Oper} {op : Oper} {a : Act} (w : World) (b N : Nat) (t : TypeId) (f : Nat → Value) (hrow : w.rowIs b t N f) (hgd : op.guard = none) (ty : TypeId) (x y : Operand) (ho : op.op = .store ty x y)
    (o : Nat) (cells : Array Value) (hx : a.eval x = .pointer (some ⟨b, o, none⟩)) (hy : a.eval y = .agg cells)
    (hN : o + cells.size ≤ N) (hi : (P.info? ty).map (·.size) = some cells.size) (h1 : cells.all (·.oneCell') = true)
    (h : ∀ w2, w.grownBy w2 (some b) → w2.rowIs b t N (fun j => if o ≤ j ∧ j < o + cells.size then cells[j - o]?.getD default else f j) → wpList P ops Q rest (a.put op.dst undef) w2) :
    wpList P ops Q (op :: rest) a w := by
  refine wpList_store_mid hgd ty x y ho b o cells hx hy (fun j hj => ?_) hi h1 ?_
  · rw [hrow.cell (by omega)]
    exact ⟨rfl, hrow.frozen _⟩
  · refine h _ (grown_setCells b cells.toList o w) ((rowIs_setCells cells.toList o _ _ hrow).congr fun j hj => ?_)
    simp
end

end Go.Proofs.Ybulkbibm.Time

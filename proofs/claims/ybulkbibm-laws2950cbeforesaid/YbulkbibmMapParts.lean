/-
  The map of one entry that the law makes.
-/
import Derived.Test.YbulkbibmLawParts
import Derived.ChangeMaps4
import Derived.WideLaws
import Derived.Carry
namespace Go.Proofs.Ybulkbibm.Time
open Go.ChangeShapes Go.WideShapes Go.ChangeAt Go.RowKit Go.MapKept
set_option linter.unusedVariables false

def oneEntry : Array MapEntry := #[⟨.string ⟨#[97]⟩, .int .i64 1, 0⟩]

theorem map_put {w : World} {b : Nat} (hb : w.heap[b]? = some (.map #[] 0)) :
    (Instr.mapUpdate 44 (.map (some b)) (.string ⟨#[97]⟩) (.int .i64 1)).run Yba.prog w = .ok () (ChangeMaps.setBlock w b (.map oneEntry 1)) := by
  have hkey : IsKey .string (.string ⟨#[97]⟩) := trivial
  have h1 : Instr.findNow .string (.string ⟨#[97]⟩) ([] : List MapEntry) 0 = some none := rfl
  simp [Instr.mapUpdate, run_underlying Yba.underlying44, MapKept.run_getObj_map hb, run_checkKey Yba.underlying9 hkey, run_findKey Yba.underlying9 h1, MapKept.run_setObj_map _ hb, Result.andThen, ChangeMaps.setBlock, oneEntry]

theorem map_get {w : World} {b : Nat} (hb : w.heap[b]? = some (.map oneEntry 1)) :
    (Instr.lookup 44 (.map (some b)) (.string ⟨#[97]⟩) false).run Yba.prog w = .ok (.int .i64 1) w := by
  have hkey : IsKey .string (.string ⟨#[97]⟩) := trivial
  have h1 : Instr.findNow .string (.string ⟨#[97]⟩) oneEntry.toList 0 = some (some (0, .int .i64 1)) := by
    rcases findNow_spec hkey oneEntry.toList 0 (by intro x hx; simp [oneEntry] at hx; subst hx; trivial) with ⟨h1, h2⟩ | ⟨j, e, h1, h2, h3⟩
    · exact absurd rfl (h2 ⟨.string ⟨#[97]⟩, .int .i64 1, 0⟩ (by simp [oneEntry]))
    · match j, h2 with
      | 0, h2 =>
        simp [oneEntry] at h2
        subst h2
        simpa using h1
      | j + 1, h2 => simp [oneEntry] at h2
  simp [Instr.lookup, run_underlying Yba.underlying44, MapKept.run_getObj_map hb, run_checkKey Yba.underlying9 hkey, run_findKey Yba.underlying9 h1, Result.andThen]

theorem map_len {w : World} {b : Nat} (hb : w.heap[b]? = some (.map oneEntry 1)) (ty : TypeId) :
    (Builtin.len_ #[44] ty #[.map (some b)]).run Yba.prog w = .ok (.int .i64 1) w := by
  have := Go.run_len_map (P := Yba.prog) (w := w) 44 ty b oneEntry 1 (by kernel_rfl) hb
  exact this

theorem grown_setBlock (w : World) (b : Nat) (o : Obj) : w.grownBy (ChangeMaps.setBlock w b o) (some b) :=
  ⟨rfl, rfl, rfl, by simp [ChangeMaps.setBlock], fun k hk hne => by
    have : k ≠ b := fun e => hne (by rw [e])
    simp [ChangeMaps.setBlock, Ne.symm this]⟩

theorem setBlock_same {w : World} {b : Nat} {o o' : Obj} (hb : w.heap[b]? = some o) : (ChangeMaps.setBlock w b o').heap[b]? = some o' := by
  have hl := (Array.getElem?_eq_some_iff.1 hb).1
  simp [ChangeMaps.setBlock, hl]

theorem block_kept {w w' : World} (hg : w.grownBy w' none) {b : Nat} {o : Obj} (h : w.heap[b]? = some o) : w'.heap[b]? = some o :=
  (hg.block b (Array.getElem?_eq_some_iff.1 h).1 (by simp)).trans h

theorem range_new (w : World) (cs : List Value) (t : TypeId) : (w.alloc (.cells cs.toArray t)).rangeAt w.heap.size 0 cs := fun j v hv => by
  have hr := World.rowIs_alloc w cs.toArray t (fun j => cs[j]?.getD default) (fun i hi => by simp at hi; simp [hi])
  have hj : j < cs.length := (List.getElem?_eq_some_iff.1 hv).1
  rw [Nat.zero_add, hr.cell (by simpa using hj), hv]
  rfl

theorem new_block (w : World) (o : Obj) : (w.alloc o).heap[w.heap.size]? = some o := by
  show (w.heap.push o)[w.heap.size]? = some o
  simp

end Go.Proofs.Ybulkbibm.Time

/-
  WORLDS OF THE WALK OF 'LawS2948CJoin': a copy into a row that has just been made; the builder and the group in memory, and what each store of 'join' does to them.
-/
import Derived.WalkKit
import Derived.Below
import Derived.OneCell
import Derived.WalkSpells
import Derived.Deep.OwnRows
import Derived.Laws.CopyOwn
import Derived.Deep.AppendLies
import Derived.Deep.QuietTactic
namespace Go.Proofs.Ybulkbiak.JoinParts
open Go.RowKit

theorem hide {p : Prop} (h : p) : Hid p := h
def upd (f : Nat → Int) (t : Nat) (x : Int) : Nat → Int := fun i => if i = t then x else f i
theorem upd_same (f : Nat → Int) (t : Nat) (x : Int) : upd f t x t = x := by simp [upd]
theorem upd_other (f : Nat → Int) {t i : Nat} (x : Int) (h : i ≠ t) : upd f t x i = f i := by simp [upd, h]

theorem stay {w w' : World} {row : Option Nat} (hg : w.grownBy w' row) {b : Nat} {o : Obj} (h : w.heap[b]? = some o) (hr : row ≠ some b) : w'.heap[b]? = some o :=
  (hg.block b (lt_of_block h) (fun e => hr e.symm)).trans h

theorem row_kept {w w' : World} {row : Option Nat} {b n : Nat} {t : TypeId} {f : Nat → Value} (h : w.rowIs b t n f) (hg : w.grownBy w' row) (hr : row ≠ some b) : w'.rowIs b t n f :=
  h.of_block (hg.block b h.lt (fun e => hr e.symm))

theorem grown_setCell (w : World) (c o : Nat) (u : Value) : w.grownBy (w.setCell ⟨c, o, none⟩ u) (some c) :=
  ⟨rfl, rfl, rfl, by simp, fun k _ hk => Below.heap_setCell _ _ _ _ (fun e => hk (by rw [e]))⟩

theorem grown_trans {a b c : World} {row : Option Nat} (h : a.grownBy b row) (k : b.grownBy c row) : a.grownBy c row :=
  ⟨k.os.trans h.os, k.tape.trans h.tape, k.output.trans h.output, Nat.le_trans h.size k.size, fun i hi hr => (k.block i (Nat.lt_of_lt_of_le hi h.size) hr).trans (h.block i hi hr)⟩

/-- New blocks alone: what was written is a new block. -/
theorem grown_new {w w' : World} {o : Obj} {row : Option Nat} (h : (w.alloc o).grownBy w' row) (hr : ∀ b, row = some b → w.heap.size ≤ b) : w.grownBy w' none ∧ w.heap.size < w'.heap.size := by
  have hs := h.size
  simp at hs
  refine ⟨⟨h.os, h.tape, h.output, by omega, fun k hk _ => ?_⟩, by omega⟩
  rw [h.block k (by simp; omega) (fun e => by have := hr k e.symm; omega)]
  exact Below.heap_alloc w o k hk

theorem grown_drewN (w : World) (n : Nat) (row : Option Nat) : w.grownBy (w.drewN n) row := ⟨rfl, rfl, rfl, Nat.le_refl _, fun _ _ _ => rfl⟩
theorem grown_drew (w : World) (row : Option Nat) : w.grownBy w.drew row := ⟨rfl, rfl, rfl, Nat.le_refl _, fun _ _ _ => rfl⟩
theorem grown_alloc (w : World) (o : Obj) : w.grownBy (w.alloc o) none := World.grownBy_alloc w o none

theorem below_of_grown {B : Nat} {w w' : World} (h : w.grownBy w' none) (hB : B ≤ w.heap.size) : Below B w w' :=
  ⟨h.os, h.tape, h.output, h.size, fun k hk => h.block k (by omega) (by simp)⟩

theorem setRow_grown (w : World) (g : Nat) (cs : Array Value) : w.grownBy (w.setRow g cs) (some g) :=
  ⟨rfl, rfl, rfl, by simp [World.setRow], fun k _ hk => setRow_other w g k cs (fun e => hk (by rw [e]))⟩

/-- 'copy(x, src)' right behind 'x := make([]int32, n)': its run. -/
theorem run_copy_new {P : Program} (w : World) (ty : TypeId) (hu : P.underlying 22 = some (.slice 21)) (hsz : (P.info? 21).map (·.size) = some 1) (n : Nat) (sp : Option Addr) (sLen sCap : Nat) (S : Nat → Int)
    (hsrc : 0 < min sLen n → ∃ ad, sp = some ad ∧ ∀ j, j < min sLen n → w.cell? (ad.add j) = some (.int .i32 (S j))) :
    ∃ v w', (Builtin.copy_ #[22, 22] ty #[.slice (some ⟨w.heap.size, 0, none⟩) n n, .slice sp sLen sCap]).run P (w.alloc (.cells (madeCells #[.int .i32 0] n) 21)) = .ok v w' ∧
      w'.rowIs w.heap.size 21 n (fun i => .int .i32 (if i < sLen then S i else 0)) ∧ w.grownBy w' none ∧ w.heap.size < w'.heap.size := by
  have hmade := World.rowIs_made w (.int .i32 0) n 21
  by_cases h0 : min sLen n = 0
  · refine ⟨_, _, run_copy_none _ 22 22 ty 21 _ sp n n sLen sCap hu hsz (by simpa using h0), ?_⟩
    have hg := grown_new (w := w) (o := .cells (madeCells #[.int .i32 0] n) 21) (row := none) ⟨rfl, rfl, rfl, Nat.le_refl _, fun _ _ _ => rfl⟩ (by simp)
    refine ⟨hmade.congr fun i hi => ?_, hg.1, hg.2⟩
    have : ¬ i < sLen := by omega
    simp [this]
  · obtain ⟨ad, rfl, hc⟩ := hsrc (by omega)
    obtain ⟨cur, hg, hcs, hcv⟩ := hmade
    refine ⟨_, _, run_copy_row P _ 22 22 ty 21 w.heap.size 0 n n ad sLen sCap cur 21 ((List.range (min sLen n)).map fun i => .int .i32 (S i)) hu hsz hg (by simp) (fun j v hj => ?_) (by simp; omega) (by simp [Value.oneCell']), ?_⟩
    · have hjl := (List.getElem?_eq_some_iff.1 hj).1
      simp at hjl
      simp [show j < min sLen n by omega] at hj
      subst hj
      have hcj := hc j (by omega)
      have hlt := World.block_lt_of_cell? w _ hcj
      rw [World.cell?_of_block (w := w) (Below.heap_alloc w _ _ hlt)]
      exact hcj
    · have gr := setRow_grown (w.alloc (.cells (madeCells #[.int .i32 0] n) 21)) w.heap.size (cur.toList.take 0 ++ ((List.range (min sLen n)).map fun i => Value.int .i32 (S i)) ++ cur.toList.drop (0 + ((List.range (min sLen n)).map fun i => Value.int .i32 (S i)).length)).toArray
      have hgn := grown_new gr (fun b hb => by simp at hb; omega)
      refine ⟨⟨_, setRow_heap _ _ _ _ _ _ hg, ?_, fun i hi => ?_⟩, hgn.1, hgn.2⟩
      · simp; omega
      · by_cases hi2 : i < min sLen n
        · simp [List.getElem?_append, hi2]
          omega
        · have hnot : ¬ i < sLen := by omega
          have := hcv i hi
          simp [List.getElem?_append, hi2, hnot]
          rw [show min sLen n + (i - min sLen n) = i by omega]
          simpa using this

/-- The builder (block b5) and the group (block b6) in memory. -/
structure JS (w : World) (B b0 b1 b5 b6 n : Nat) (bin al : Nat → Int) (tv : Value) (gid com : Int) (txs : List Int) : Prop where
  r0 : w.rowIs b0 21 n (fun i => .int .i32 (bin i))
  r1 : w.rowIs b1 21 n (fun i => .int .i32 (al i))
  bb : w.heap[b5]? = some (Obj.cells #[.slice none 0 0, .slice none 0 0, .int .i32 7, .int .i32 3, .slice (some ⟨b0, 0, none⟩) n n, .slice (some ⟨b1, 0, none⟩) n n] 26 (0, 0))
  gg : w.heap[b6]? = some (Obj.cells #[.int .i32 gid, .int .u8 2, tv, .int .i64 com] 30 (0, 0))
  tx : w.ownsRow B 21 1 tv txs.length (txs.map (Value.int .i32))
  n01 : b0 ≠ b1
  nt0 : tv.ownBlock ≠ some b0
  nt1 : tv.ownBlock ≠ some b1
  lo : B ≤ b0 ∧ B ≤ b1 ∧ B ≤ b5 ∧ B ≤ b6

/-- Nothing but the builder's rows, the group and its row of transactions is touched. -/
def Only (w w' : World) (b0 b1 b6 : Nat) (tv : Value) : Prop := ∀ (b : Nat) (o : Obj), w.heap[b]? = some o → b ≠ b0 → b ≠ b1 → b ≠ b6 → tv.ownBlock ≠ some b → w'.heap[b]? = some o

theorem Only.refl (w : World) (b0 b1 b6 : Nat) (tv : Value) : Only w w b0 b1 b6 tv := fun _ _ h _ _ _ _ => h
theorem Only.trans {a b c : World} {b0 b1 b6 : Nat} {tv : Value} (h : Only a b b0 b1 b6 tv) (k : Only b c b0 b1 b6 tv) : Only a c b0 b1 b6 tv :=
  fun x o hx h0 h1 h6 ht => k x o (h x o hx h0 h1 h6 ht) h0 h1 h6 ht
theorem Only.grown {w w' : World} {row : Option Nat} {b0 b1 b6 : Nat} {tv : Value} (hg : w.grownBy w' row) (hr : ∀ b, row = some b → b = b0 ∨ b = b1 ∨ b = b6 ∨ tv.ownBlock = some b) : Only w w' b0 b1 b6 tv :=
  fun x o hx h0 h1 h6 ht => stay hg hx fun e => by rcases hr x e with r | r | r | r <;> contradiction

section
variable {w : World} {B b0 b1 b5 b6 n : Nat} {bin al : Nat → Int} {tv : Value} {gid com : Int} {txs : List Int}

theorem JS.n05 (h : JS w B b0 b1 b5 b6 n bin al tv gid com txs) : b5 ≠ b0 := by
  rintro rfl; obtain ⟨c, hc, _⟩ := h.r0; rw [h.bb] at hc; simp at hc
theorem JS.n15 (h : JS w B b0 b1 b5 b6 n bin al tv gid com txs) : b5 ≠ b1 := by
  rintro rfl; obtain ⟨c, hc, _⟩ := h.r1; rw [h.bb] at hc; simp at hc
theorem JS.n06 (h : JS w B b0 b1 b5 b6 n bin al tv gid com txs) : b6 ≠ b0 := by
  rintro rfl; obtain ⟨c, hc, _⟩ := h.r0; rw [h.gg] at hc; simp at hc
theorem JS.n16 (h : JS w B b0 b1 b5 b6 n bin al tv gid com txs) : b6 ≠ b1 := by
  rintro rfl; obtain ⟨c, hc, _⟩ := h.r1; rw [h.gg] at hc; simp at hc
theorem JS.n56 (h : JS w B b0 b1 b5 b6 n bin al tv gid com txs) : b6 ≠ b5 := by
  rintro rfl; have := h.gg; rw [h.bb] at this; simp at this
theorem tv_block {e : TypeId} {v : Value} {xs : List Value} {k : Nat} (h : w.ownsRow B e 1 v k xs) : ∀ g, v.ownBlock = some g → ∃ cur, w.heap[g]? = some (Obj.cells cur e (0, 0)) := by
  intro x hx
  rcases h.2 with ⟨rfl, _⟩ | ⟨g, cap, cur, rfl, hb, hg, _⟩
  · simp [Value.ownBlock] at hx
  · simp [Value.ownBlock] at hx
    subst hx
    exact ⟨cur, hg⟩
theorem JS.nt5 (h : JS w B b0 b1 b5 b6 n bin al tv gid com txs) : tv.ownBlock ≠ some b5 := fun e => by
  obtain ⟨c, hc⟩ := tv_block h.tx _ e; rw [h.bb] at hc; simp at hc
theorem JS.nt6 (h : JS w B b0 b1 b5 b6 n bin al tv gid com txs) : tv.ownBlock ≠ some b6 := fun e => by
  obtain ⟨c, hc⟩ := tv_block h.tx _ e; rw [h.gg] at hc; simp at hc

theorem tx_kept {w' : World} {row : Option Nat} (h : w.ownsRow B 21 1 tv txs.length (txs.map (Value.int .i32))) (hg : w.grownBy w' row) (hr : ∀ b, row = some b → tv.ownBlock ≠ some b) : w'.ownsRow B 21 1 tv txs.length (txs.map (Value.int .i32)) := by
  refine h.kept hg ?_
  cases hv : tv.ownBlock with
  | none => exact .inl rfl
  | some b => exact .inr fun e => hr b e.symm hv

theorem JS.later {w' : World} (h : JS w B b0 b1 b5 b6 n bin al tv gid com txs) (hg : w.grownBy w' none) : JS w' B b0 b1 b5 b6 n bin al tv gid com txs :=
  ⟨row_kept h.r0 hg (by simp), row_kept h.r1 hg (by simp), stay hg h.bb (by simp), stay hg h.gg (by simp), tx_kept h.tx hg (by simp), h.n01, h.nt0, h.nt1, h.lo⟩

theorem JS.setIn (h : JS w B b0 b1 b5 b6 n bin al tv gid com txs) (t : Nat) (x : Int) : JS (w.setCell ⟨b0, t, none⟩ (.int .i32 x)) B b0 b1 b5 b6 n (upd bin t x) al tv gid com txs := by
  have hg := grown_setCell w b0 t (.int .i32 x)
  refine ⟨(h.r0.set t (.int .i32 x)).congr fun i _ => ?_, row_kept h.r1 hg (by simpa using h.n01), stay hg h.bb (by simpa using fun e => h.n05 e.symm), stay hg h.gg (by simpa using fun e => h.n06 e.symm), tx_kept h.tx hg (fun b hb => by simp at hb; subst hb; exact h.nt0), h.n01, h.nt0, h.nt1, h.lo⟩
  unfold upd
  split <;> rfl

theorem JS.setAl (h : JS w B b0 b1 b5 b6 n bin al tv gid com txs) (t : Nat) (x : Int) : JS (w.setCell ⟨b1, t, none⟩ (.int .i32 x)) B b0 b1 b5 b6 n bin (upd al t x) tv gid com txs := by
  have hg := grown_setCell w b1 t (.int .i32 x)
  refine ⟨row_kept h.r0 hg (by simpa using fun e => h.n01 e.symm), (h.r1.set t (.int .i32 x)).congr fun i _ => ?_, stay hg h.bb (by simpa using fun e => h.n15 e.symm), stay hg h.gg (by simpa using fun e => h.n16 e.symm), tx_kept h.tx hg (fun b hb => by simp at hb; subst hb; exact h.nt1), h.n01, h.nt0, h.nt1, h.lo⟩
  unfold upd
  split <;> rfl

theorem JS.setCom (h : JS w B b0 b1 b5 b6 n bin al tv gid com txs) (x : Int) : JS (w.setCell ⟨b6, 3, none⟩ (.int .i64 x)) B b0 b1 b5 b6 n bin al tv gid x txs := by
  have hg := grown_setCell w b6 3 (.int .i64 x)
  have l1 := heap_setCell_same _ b6 3 _ 30 (.int .i64 x) h.gg
  exact ⟨row_kept h.r0 hg (by simpa using h.n06), row_kept h.r1 hg (by simpa using h.n16), stay hg h.bb (by simpa using h.n56), by simpa using l1, tx_kept h.tx hg (fun b hb => by simp at hb; subst hb; exact h.nt6), h.n01, h.nt0, h.nt1, h.lo⟩

/-- 'g.txs = append(g.txs, t)'. -/
theorem JS.push {w1 : World} {o : Obj} {t : Int} {g cap : Nat} (h : JS w B b0 b1 b5 b6 n bin al tv gid com txs) (hown : w1.ownsRow B 21 1 (.slice (some ⟨g, 0, none⟩) (txs.length + 1) cap) (txs.length + 1) (txs.map (Value.int .i32) ++ [.int .i32 t]))
    (hgrow : (w.alloc o).grownBy w1 tv.ownBlock) (hat : tv.ownBlock = some g ∨ g = w.heap.size + 1) :
    JS (w1.setCell ⟨b6, 2, none⟩ (.slice (some ⟨g, 0, none⟩) (txs.length + 1) cap)) B b0 b1 b5 b6 n bin al (.slice (some ⟨g, 0, none⟩) (txs.length + 1) cap) gid com (txs ++ [t]) ∧
    Only w (w1.setCell ⟨b6, 2, none⟩ (.slice (some ⟨g, 0, none⟩) (txs.length + 1) cap)) b0 b1 b6 tv ∧ w1.heap[b6]? = some (Obj.cells #[.int .i32 gid, .int .u8 2, tv, .int .i64 com] 30 (0, 0)) := by
  have ha := h.later (grown_alloc w o)
  have g6 : w1.heap[b6]? = some (Obj.cells #[.int .i32 gid, .int .u8 2, tv, .int .i64 com] 30 (0, 0)) := stay hgrow ha.gg h.nt6
  have gs := grown_setCell w1 b6 2 (.slice (some ⟨g, 0, none⟩) (txs.length + 1) cap)
  have l1 := heap_setCell_same _ b6 2 _ 30 (.slice (some ⟨g, 0, none⟩) (txs.length + 1) cap) g6
  have ng : ∀ {b : Nat}, tv.ownBlock ≠ some b → b < w.heap.size → (Value.slice (some ⟨g, 0, none⟩) (txs.length + 1) cap).ownBlock ≠ some b := by
    intro b hb hl e
    simp [Value.ownBlock] at e
    subst e
    rcases hat with e | e
    · exact hb e
    · omega
  have ng6 : (Value.slice (some ⟨g, 0, none⟩) (txs.length + 1) cap).ownBlock ≠ some b6 := ng h.nt6 (lt_of_block h.gg)
  refine ⟨⟨row_kept (row_kept ha.r0 hgrow h.nt0) gs (by simpa using h.n06), row_kept (row_kept ha.r1 hgrow h.nt1) gs (by simpa using h.n16), stay gs (stay hgrow ha.bb h.nt5) (by simpa using h.n56), by simpa using l1, ?_, h.n01, ng h.nt0 h.r0.lt, ng h.nt1 h.r1.lt, h.lo⟩, ?_, g6⟩
  · have := tx_kept (txs := txs ++ [t]) (tv := .slice (some ⟨g, 0, none⟩) (txs.length + 1) cap) (by simpa using hown) gs (fun b hb => by simp at hb; subst hb; exact ng6)
    simpa using this
  · exact ((Only.grown (grown_alloc w o) (by simp)).trans (Only.grown hgrow fun b hb => .inr (.inr (.inr hb)))).trans (Only.grown gs fun b hb => by simp at hb; exact .inr (.inr (.inl hb.symm)))

theorem JS.below {w1 : World} {o : Obj} (h : JS w B b0 b1 b5 b6 n bin al tv gid com txs) {w0 : World} (hb : Below B w0 w) (hgrow : (w.alloc o).grownBy w1 tv.ownBlock) (u : Value) : Below B w0 (w1.setCell ⟨b6, 2, none⟩ u) := by
  have hl := lt_of_block h.gg
  have h6 := h.lo.2.2.2
  refine Below.setCell (p := ⟨b6, 2, none⟩) (Below.grown (hb.alloc (by omega) o) hgrow (by simp; omega) fun b hbb => ?_) h6 u
  rcases h.tx.2 with ⟨rfl, _⟩ | ⟨g, cap, cur, rfl, hB, _⟩
  · simp [Value.ownBlock] at hbb
  · simp [Value.ownBlock] at hbb
    omega
end

end Go.Proofs.Ybulkbiak.JoinParts

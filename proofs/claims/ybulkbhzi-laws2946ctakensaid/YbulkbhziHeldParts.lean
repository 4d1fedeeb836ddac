/-
  WORLDS OF THE WALK OF 'LawS2946CHeld' AND 'LawS2946CTaken': rows of pointers to holds. No program in sight.
-/
import Derived.WalkKit
import Derived.Below
import Derived.OneCell
import Derived.WalkSpells
namespace Go.Proofs.Ybulkbhzi.HeldParts
open Go.RowKit

def ptr (p : Nat) : Value := .pointer (some ⟨p, 0, none⟩)

/-- Block b is a hold of goroutine i, its 'sent' being j. -/
def HB (w : World) (b : Nat) (i j : Int) : Prop :=
  ∃ cur, w.heap[b]? = some (.cells cur 75 (0, 0)) ∧ cur[8]? = some (.int .i64 i) ∧ cur[9]? = some (.int .i64 j)

/-- The slice value v, of n elements, owns a row of pointers to holds of goroutine i, the j-th with 'sent' j; it is nil where n is 0. -/
def RowAt (w : World) (base : Nat) (i : Int) (n : Nat) (v : Value) (ps : List Nat) : Prop :=
  w.ownsRow base 67 1 v n (ps.map ptr) ∧ (n = 0 → v = .slice none 0 0) ∧ ∀ (j : Nat) p, ps[j]? = some p → HB w p i (j : Int)

/-- Blocks of pointers and of holds stay. -/
def Diff (w w' : World) : Prop := ∀ (b : Nat) (cur : Array Value) (e : TypeId), w.heap[b]? = some (Obj.cells cur e (0, 0)) → (e = 67 ∨ e = 75) → w'.heap[b]? = w.heap[b]?

theorem HB.diff {w w' : World} {b : Nat} {i j : Int} (h : HB w b i j) (d : Diff w w') : HB w' b i j := by
  obtain ⟨cur, h1, h2⟩ := h
  exact ⟨cur, (d b cur 75 h1 (.inr rfl)).trans h1, h2⟩

theorem RowAt.diff {w w' : World} {base : Nat} {i : Int} {n : Nat} {v : Value} {ps : List Nat} (h : RowAt w base i n v ps) (d : Diff w w') : RowAt w' base i n v ps := by
  obtain ⟨⟨hl, ho⟩, hn, hp⟩ := h
  refine ⟨⟨hl, ?_⟩, hn, fun j p hj => (hp j p hj).diff d⟩
  rcases ho with ho | ⟨g, cap, cur, hv, hg, hh, r⟩
  · exact .inl ho
  · exact .inr ⟨g, cap, cur, hv, hg, (d g cur 67 hh (.inl rfl)).trans hh, r⟩

theorem Diff.refl (w : World) : Diff w w := fun _ _ _ _ _ => rfl
theorem Diff.trans {a b c : World} (h : Diff a b) (k : Diff b c) : Diff a c := fun x cur e hx he =>
  (k x cur e ((h x cur e hx he).trans hx) he).trans (h x cur e hx he)
theorem Diff.below {w w' : World} (h : Below w.heap.size w w') : Diff w w' := fun b _ _ hb _ => h.block b (lt_of_block hb)
theorem Diff.alloc (w : World) (o : Obj) : Diff w (w.alloc o) := fun b _ _ hb _ => Below.heap_alloc w o b (lt_of_block hb)
theorem Diff.drew (w : World) : Diff w w.drew := fun _ _ _ _ _ => rfl
theorem Diff.grown {w w' : World} {row : Option Nat} (hg : w.grownBy w' row) (hr : ∀ g, row = some g → ∃ cur e f, w.heap[g]? = some (.cells cur e f) ∧ e ≠ 67 ∧ e ≠ 75) : Diff w w' := by
  intro b cur e hb he
  refine hg.block b (lt_of_block hb) fun hrow => ?_
  obtain ⟨cur', e', f', h', h67, h75⟩ := hr b hrow.symm
  rw [hb] at h'
  simp at h'
  obtain ⟨_, rfl, _⟩ := h'
  rcases he with rfl | rfl
  · exact h67 rfl
  · exact h75 rfl
theorem Diff.setCell {w : World} {a : Addr} (u : Value) (hr : ∃ cur e f, w.heap[a.block]? = some (.cells cur e f) ∧ e ≠ 67 ∧ e ≠ 75) : Diff w (w.setCell a u) := by
  intro b cur e hb he
  refine Below.heap_setCell _ _ _ _ fun hrow => ?_
  obtain ⟨cur', e', f', h', h67, h75⟩ := hr
  rw [← hrow, hb] at h'
  simp at h'
  obtain ⟨_, rfl, _⟩ := h'
  rcases he with rfl | rfl
  · exact h67 rfl
  · exact h75 rfl

theorem ownsRow_mono {w : World} {base base' : Nat} {e : TypeId} {size : Nat} {v : Value} {n : Nat} {xs : List Value} (h : w.ownsRow base e size v n xs) (hb : base' ≤ base) : w.ownsRow base' e size v n xs := by
  refine ⟨h.1, ?_⟩
  rcases h.2 with ho | ⟨g, cap, cur, hv, hg, r⟩
  · exact .inl ho
  · exact .inr ⟨g, cap, cur, hv, by omega, r⟩

theorem RowAt.mono {w : World} {base base' : Nat} {i : Int} {n : Nat} {v : Value} {ps : List Nat} (h : RowAt w base i n v ps) (hb : base' ≤ base) : RowAt w base' i n v ps :=
  ⟨ownsRow_mono h.1 hb, h.2⟩

theorem RowAt.nil (w : World) (base : Nat) (i : Int) : RowAt w base i 0 (.slice none 0 0) [] :=
  ⟨World.ownsRow_nil w base 67 1, fun _ => rfl, by simp⟩

theorem ownsRow_form {w : World} {base : Nat} {e : TypeId} {size : Nat} {v : Value} {n : Nat} {xs : List Value} (h : w.ownsRow base e size v n xs) : ∃ ao cap, v = .slice ao n cap ∧ n ≤ cap ∧ cap ≤ maxLen := by
  rcases h.2 with ⟨rfl, rfl⟩ | ⟨g, cap, cur, hv, _, _, h1, h2, _⟩
  · exact ⟨none, 0, rfl, Nat.le_refl _, by simp [maxLen]⟩
  · exact ⟨_, cap, hv, h1, h2⟩

theorem ownsRow_some {w : World} {base : Nat} {e : TypeId} {size : Nat} {v : Value} {n : Nat} {xs : List Value} (h : w.ownsRow base e size v n xs) (hn : 0 < n) : ∃ g cap, v = .slice (some ⟨g, 0, none⟩) n cap ∧ base ≤ g ∧ g < w.heap.size ∧ n ≤ cap ∧ cap ≤ maxLen := by
  rcases h.2 with ⟨rfl, h0⟩ | ⟨g, cap, cur, hv, h1, h2, h3, h4, _⟩
  · omega
  · exact ⟨g, cap, hv, h1, lt_of_block h2, h3, h4⟩

/-- The row that is written is of elements e. -/
theorem ownsRow_block {w : World} {base : Nat} {e : TypeId} {size : Nat} {v : Value} {n : Nat} {xs : List Value} (h : w.ownsRow base e size v n xs) : ∀ g, v.ownBlock = some g → ∃ cur, w.heap[g]? = some (.cells cur e (0, 0)) := by
  intro k hk
  rcases h.2 with ⟨rfl, _⟩ | ⟨g, cap, cur, rfl, hb, hg, _⟩
  · simp [Value.ownBlock] at hk
  · simp [Value.ownBlock] at hk
    subst hk
    exact ⟨cur, hg⟩

/-- One hold more in the row of goroutine i: the hold is made (block w.heap.size), boxed into a slice of one, and appended. -/
theorem RowAt.push {w w1 : World} {base : Nat} {i : Int} {n : Nat} {v v' : Value} {ps : List Nat} {cur : Array Value} {o2 : Obj} (h : RowAt w base i n v ps)
    (hg8 : cur[8]? = some (.int .i64 i)) (hg9 : cur[9]? = some (.int .i64 (n : Int)))
    (hown : w1.ownsRow base 67 1 v' (n + 1) (ps.map ptr ++ [ptr w.heap.size])) (hgrow : ((w.alloc (.cells cur 75)).alloc o2).grownBy w1 v.ownBlock) :
    RowAt w1 base i (n + 1) v' (ps ++ [w.heap.size]) := by
  have hlen : ps.length = n := by simpa using h.1.1
  refine ⟨by simpa using hown, by omega, fun j p hj => ?_⟩
  have hown0 := (h.1.alloc (.cells cur 75)).alloc o2
  have key : ∀ (b : Nat) (c : Array Value), ((w.alloc (.cells cur 75)).alloc o2).heap[b]? = some (Obj.cells c 75 (0, 0)) → w1.heap[b]? = some (Obj.cells c 75 (0, 0)) := by
    intro b c hb
    rw [hgrow.block b (lt_of_block hb) fun hrow => ?_]
    · exact hb
    · obtain ⟨cc, hcc⟩ := ownsRow_block hown0 b hrow.symm
      rw [hb] at hcc
      simp at hcc
  by_cases hjn : j < n
  · rw [List.getElem?_append_left (by omega)] at hj
    obtain ⟨c, h1, h2⟩ := h.2.2 j p hj
    have hlt := lt_of_block h1
    refine ⟨c, key p c ?_, h2⟩
    rw [Below.heap_alloc _ _ _ (by simp; omega), Below.heap_alloc _ _ _ hlt]
    exact h1
  · have hjl := (List.getElem?_eq_some_iff.1 hj).1
    simp at hjl
    obtain rfl : j = n := by omega
    rw [List.getElem?_append_right (by omega)] at hj
    simp [hlen] at hj
    subst hj
    refine ⟨cur, key _ cur ?_, hg8, hg9⟩
    rw [Below.heap_alloc _ _ _ (by simp)]
    exact heap_alloc_new w _

theorem cell_new2 (w : World) (o : Obj) (v : Value) (t : TypeId) : ∀ (j : Nat) u, [v][j]? = some u → ((w.alloc o).alloc (.cells #[v] t)).cell? ((⟨w.heap.size + 1, 0, none⟩ : Addr).add j) = some u := by
  intro j u hj
  have := cell_one_new (w.alloc o) v t j u hj
  simpa using this

/-- A block of four cells (the table of holds): its first cell. -/
theorem four_cell {w : World} {b : Nat} {v0 v1 v2 v3 : Value} {t : TypeId} (h : w.heap[b]? = some (.cells #[v0, v1, v2, v3] t (0, 0))) : w.cell? ⟨b, 0, none⟩ = some v0 := by simp [World.cell?, h]
theorem four_free {w : World} {b : Nat} {v0 v1 v2 v3 : Value} {t : TypeId} (h : w.heap[b]? = some (.cells #[v0, v1, v2, v3] t (0, 0))) (o : Nat) : w.frozen? ⟨b, o, none⟩ = false := by simp [World.frozen?, h]
theorem four_setCell {w : World} {b : Nat} {v0 v1 v2 v3 u : Value} {t : TypeId} (h : w.heap[b]? = some (.cells #[v0, v1, v2, v3] t (0, 0))) : (w.setCell ⟨b, 0, none⟩ u).heap[b]? = some (.cells #[u, v1, v2, v3] t (0, 0)) := by
  have hlt := lt_of_block h
  have h' : w.heap[b] = .cells #[v0, v1, v2, v3] t (0, 0) := by simpa [Array.getElem?_eq_getElem hlt] using h
  show (w.heap.modify b _)[b]? = _
  rw [Array.getElem?_eq_getElem (by simpa using hlt), Array.getElem_modify_self, h']
  rfl

/-- The table behind k rounds: block w.heap.size holds it; its row owns vs; the j-th is a row of holds of goroutine j, 'nn j' of them. -/
structure OR (w : World) (nn : Nat → Nat) (k : Nat) (wr : World) (v : Value) (vs : List Value) : Prop where
  blk : wr.heap[w.heap.size]? = some (.cells #[v, .map none, .map none, .slice none 0 0] 66 (0, 0))
  own : wr.ownsRow (w.heap.size + 1) 64 1 v k vs
  rows : ∀ (j : Nat) u, vs[j]? = some u → ∃ ps, RowAt wr (w.heap.size + 1) (j : Int) (nn j) u ps
  below : Below w.heap.size w wr

theorem OR.start (w : World) (nn : Nat → Nat) : OR w nn 0 (w.alloc (.cells #[.slice none 0 0, .map none, .map none, .slice none 0 0] 66)) (.slice none 0 0) [] :=
  ⟨heap_alloc_new w _, World.ownsRow_nil _ _ _ _, by simp, (Below.refl _ _).alloc (Nat.le_refl _) _⟩

/-- Blocks below wo's end stand as they stood: the table in a later world. -/
theorem OR.later {w wo wi : World} {nn : Nat → Nat} {k : Nat} {v : Value} {vs : List Value} (h : OR w nn k wo v vs) (hb : Below wo.heap.size wo wi) : OR w nn k wi v vs := by
  have hsz := lt_of_block h.blk
  refine ⟨(hb.block _ hsz).trans h.blk, ?_, fun j u hj => ?_, h.below.trans (hb.mono (by omega))⟩
  · refine h.own.kept (row := none) ⟨hb.os, hb.tape, hb.output, hb.size, fun k hk _ => hb.block k hk⟩ ?_
    cases hv : v.ownBlock <;> simp
  · obtain ⟨ps, hp⟩ := h.rows j u hj
    exact ⟨ps, hp.diff (Diff.below hb)⟩

theorem OR.blk2 {w wi w2 : World} {nn : Nat → Nat} {k : Nat} {v : Value} {vs : List Value} {o : Obj} (h : OR w nn k wi v vs) (hgrow : (wi.alloc o).grownBy w2 v.ownBlock) :
    w2.heap[w.heap.size]? = some (.cells #[v, .map none, .map none, .slice none 0 0] 66 (0, 0)) := by
  have hsz := lt_of_block h.blk
  rw [hgrow.block _ (by simp; omega) (fun hrow => ?_), Below.heap_alloc _ _ _ hsz]
  · exact h.blk
  · have := ((h.own.alloc o).lt _ hrow.symm).1
    omega

/-- What the table holds for goroutine g. -/
theorem OR.at {w wr : World} {nn : Nat → Nat} {k : Nat} {v : Value} {vs : List Value} (h : OR w nn k wr v vs) {g : Nat} (hg : g < k) :
    ∃ gv cv ao cp ps, v = .slice (some ⟨gv, 0, none⟩) k cv ∧ wr.cell? ⟨gv, g, none⟩ = some (.slice ao (nn g) cp) ∧ k ≤ cv ∧ cv ≤ maxLen ∧ nn g ≤ cp ∧ cp ≤ maxLen ∧
      RowAt wr (w.heap.size + 1) (g : Int) (nn g) (.slice ao (nn g) cp) ps := by
  obtain ⟨gv, cv, rfl, _, _, h1, h2⟩ := ownsRow_some h.own (by omega)
  have hlen : vs.length = k := by simpa using h.own.1
  have hget : vs[g]? = some vs[g] := List.getElem?_eq_getElem (by omega)
  obtain ⟨ps, hp⟩ := h.rows g _ hget
  obtain ⟨ao, cp, hv, h3, h4⟩ := ownsRow_form hp.1
  refine ⟨gv, cv, ao, cp, ps, rfl, ?_, h1, h2, h3, h4, hv ▸ hp⟩
  rw [h.own.cellAt g (by omega), hget, hv]

/-- What a row of holds holds at place j. -/
theorem RowAt.at {w : World} {base : Nat} {i : Int} {n cp : Nat} {ao : Option Addr} {ps : List Nat} (h : RowAt w base i n (.slice ao n cp) ps) {j : Nat} (hj : j < n) :
    ∃ g p, ao = some ⟨g, 0, none⟩ ∧ w.cell? ⟨g, j, none⟩ = some (.pointer (some ⟨p, 0, none⟩)) ∧ w.cell? ⟨p, 8, none⟩ = some (.int .i64 i) ∧ w.cell? ⟨p, 9, none⟩ = some (.int .i64 (j : Int)) := by
  have hlen : ps.length = n := by simpa using h.1.1
  obtain ⟨g, c, hv, _⟩ := ownsRow_some h.1 (by omega)
  simp only [Value.slice.injEq] at hv
  obtain ⟨rfl, _, rfl⟩ := hv
  have hget : ps[j]? = some ps[j] := List.getElem?_eq_getElem (by omega)
  obtain ⟨cur, h1, h2, h3⟩ := h.2.2 j _ hget
  refine ⟨g, ps[j], rfl, ?_, ?_, ?_⟩
  · rw [h.1.cellAt j (by omega), List.getElem?_map, hget]
    rfl
  · simp [World.cell?, h1, h2]
  · simp [World.cell?, h1, h3]

theorem OR.push {w wi w2 : World} {nn : Nat → Nat} {k : Nat} {v v' hs : Value} {vs : List Value} {ps : List Nat} (h : OR w nn k wi v vs) (hr : RowAt wi (w.heap.size + 1) (k : Int) (nn k) hs ps)
    (hown : w2.ownsRow (w.heap.size + 1) 64 1 v' (k + 1) (vs ++ [hs])) (hgrow : (wi.alloc (.cells #[hs] 64)).grownBy w2 v.ownBlock) :
    OR w nn (k + 1) (w2.setCell ⟨w.heap.size, 0, none⟩ v') v' (vs ++ [hs]) := by
  have hsz := lt_of_block h.blk
  have hlen : vs.length = k := by simpa using h.own.1
  have hown0 := h.own.alloc (.cells #[hs] 64)
  have hd1 : Diff wi w2 := (Diff.alloc wi _).trans (Diff.grown hgrow fun g hg => by
    obtain ⟨cur, hcur⟩ := ownsRow_block hown0 g hg
    exact ⟨cur, 64, _, hcur, by decide, by decide⟩)
  have hblk2 := h.blk2 hgrow
  have hd : Diff wi (w2.setCell ⟨w.heap.size, 0, none⟩ v') := hd1.trans (Diff.setCell v' ⟨_, 66, _, hblk2, by decide, by decide⟩)
  refine ⟨four_setCell hblk2, ownsRow_setCell_below hown (by simp) v', fun j u hj => ?_, ?_⟩
  · by_cases hjk : j < k
    · rw [List.getElem?_append_left (by omega)] at hj
      obtain ⟨qs, hq⟩ := h.rows j u hj
      exact ⟨qs, hq.diff hd⟩
    · have hjl := (List.getElem?_eq_some_iff.1 hj).1
      simp at hjl
      obtain rfl : j = k := by omega
      rw [List.getElem?_append_right (by omega)] at hj
      simp [hlen] at hj
      subst hj
      exact ⟨ps, hr.diff hd⟩
  · refine Below.setCell (p := ⟨w.heap.size, 0, none⟩) ?_ (by simp) _
    refine Below.grown (h.below.alloc (by omega) _) hgrow (by simp; omega) fun g hg => ?_
    have := (hown0.lt _ hg).1
    omega

end Go.Proofs.Ybulkbhzi.HeldParts

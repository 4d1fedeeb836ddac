/-
  WORLDS OF THE WALK OF 'LawS2946CTaken': the table of holds, its two maps, and the rows of pointers, each under a tag of its own (0 .. 4: the table's row of a goroutine; 5 .. 9: the law's own row; 10 + o: the readers of lock o), no two tags in one block.
-/
import Derived.Test.YbulkbhziHeldParts
import Derived.Test.YbulkbhziProg
import Derived.Maps.Keyed
import Derived.Maps.Own
import Derived.Deep.AppendLies
import Derived.ChangeMaps5
import Derived.Deep.QuietTactic
namespace Go.Proofs.Ybulkbhzi.TakenParts
open Go.RowKit Go.Proofs.Ybulkbhzi.HeldParts

def upd {α : Type} (f : Nat → α) (t : Nat) (x : α) : Nat → α := fun τ => if τ = t then x else f τ
theorem upd_same {α : Type} (f : Nat → α) (t : Nat) (x : α) : upd f t x t = x := by simp [upd]
theorem upd_other {α : Type} (f : Nat → α) {t τ : Nat} (x : α) (h : τ ≠ t) : upd f t x τ = f τ := by simp [upd, h]

theorem stay {w w' : World} {row : Option Nat} (hg : w.grownBy w' row) {b : Nat} {o : Obj} (h : w.heap[b]? = some o) (hr : row ≠ some b) : w'.heap[b]? = some o :=
  (hg.block b (lt_of_block h) (fun e => hr e.symm)).trans h

theorem grown_setCell (w : World) (c o : Nat) (u : Value) : w.grownBy (w.setCell ⟨c, o, none⟩ u) (some c) :=
  ⟨rfl, rfl, rfl, by simp, fun k _ hk => Below.heap_setCell _ _ _ _ (fun e => hk (by rw [e]))⟩

theorem grown_setBlock (w : World) (c : Nat) (o : Obj) : w.grownBy (ChangeMaps.setBlock w c o) (some c) :=
  ⟨rfl, rfl, rfl, by simp [ChangeMaps.setBlock], fun k _ hk => by
    show (w.heap.setIfInBounds c o)[k]? = _
    rw [Array.getElem?_setIfInBounds]
    by_cases h : c = k
    · exact absurd (by rw [h]) hk
    · rw [if_neg h]⟩

/-- The rows of pointers, by tags. -/
structure Rows (w : World) (base k : Nat) (V : Nat → Value) (ps : Nat → List Nat) : Prop where
  own : ∀ τ, w.ownsRow base 67 1 (V τ) (ps τ).length ((ps τ).map ptr)
  apart : ∀ τ τ' b, (V τ).ownBlock = some b → (V τ').ownBlock = some b → τ = τ'
  few : ∀ τ, (ps τ).length ≤ k

/-- Nothing is written but block c, which is no row of pointers. -/
theorem Rows.kept {w w' : World} {base k : Nat} {V : Nat → Value} {ps : Nat → List Nat} (h : Rows w base k V ps) {row : Option Nat} (hg : w.grownBy w' row)
    (hr : ∀ c cur f, row = some c → w.heap[c]? ≠ some (Obj.cells cur 67 f)) : Rows w' base k V ps := by
  refine ⟨fun τ => (h.own τ).kept hg ?_, h.apart, h.few⟩
  cases hv : (V τ).ownBlock with
  | none => exact .inl rfl
  | some b =>
    right
    intro e
    obtain ⟨cur, hc⟩ := ownsRow_block (h.own τ) b hv
    exact hr b cur _ e.symm hc

theorem Rows.mono {w : World} {base k k' : Nat} {V : Nat → Value} {ps : Nat → List Nat} (h : Rows w base k V ps) (hk : k ≤ k') : Rows w base k' V ps :=
  ⟨h.own, h.apart, fun τ => Nat.le_trans (h.few τ) hk⟩

/-- One pointer more in the row of tag t. -/
theorem Rows.push {w w1 : World} {base k : Nat} {V : Nat → Value} {ps : Nat → List Nat} (h : Rows w base k V ps) {t p g cap : Nat} {u : Value} {us : List Nat} {o : Obj}
    (hut : ∀ τ b, τ ≠ t → u.ownBlock = some b → (V τ).ownBlock ≠ some b) (hus : us.length ≤ k)
    (hown : w1.ownsRow base 67 1 (.slice (some ⟨g, 0, none⟩) (us.length + 1) cap) (us.length + 1) (us.map ptr ++ [ptr p]))
    (hgrow : (w.alloc o).grownBy w1 u.ownBlock) (hat : u.ownBlock = some g ∨ g = w.heap.size + 1) :
    Rows w1 base (k + 1) (upd V t (.slice (some ⟨g, 0, none⟩) (us.length + 1) cap)) (upd ps t (us ++ [p])) := by
  have new : ∀ τ, τ ≠ t → (V τ).ownBlock ≠ some g := by
    intro τ hτ e
    rcases hat with hat | hat
    · exact hut τ g hτ hat e
    · have := ((h.own τ).lt g e).2
      omega
  refine ⟨fun τ => ?_, fun τ τ' b h1 h2 => ?_, fun τ => ?_⟩
  · by_cases hτ : τ = t
    · subst hτ
      rw [upd_same, upd_same]
      simpa using hown
    · rw [upd_other _ _ hτ, upd_other _ _ hτ]
      refine ((h.own τ).alloc o).kept hgrow ?_
      cases hv : (V τ).ownBlock with
      | none => exact .inl rfl
      | some b => exact .inr fun e => hut τ b hτ e.symm hv
  · by_cases hτ : τ = t
    · subst hτ
      by_cases hτ' : τ' = τ
      · exact hτ'.symm
      · rw [upd_same] at h1
        rw [upd_other _ _ hτ'] at h2
        simp [Value.ownBlock] at h1
        subst h1
        exact absurd h2 (new τ' hτ')
    · by_cases hτ' : τ' = t
      · subst hτ'
        rw [upd_same] at h2
        rw [upd_other _ _ hτ] at h1
        simp [Value.ownBlock] at h2
        subst h2
        exact absurd h1 (new τ hτ)
      · rw [upd_other _ _ hτ] at h1
        rw [upd_other _ _ hτ'] at h2
        exact h.apart τ τ' b h1 h2
  · by_cases hτ : τ = t
    · subst hτ
      rw [upd_same]
      simp
      omega
    · rw [upd_other _ _ hτ]
      have := h.few τ
      omega

/-- A map keyed by numbers whose elements nobody asks of. -/
def R0 : Value → Option (DataW Unit × List MemPlace) := fun _ => some (.nil, [])
def WMap (w : World) (m k : Nat) : Prop := ∃ es clock, w.heap[m]? = some (.map es clock) ∧ WideElems.Fit Yba.prog 68 R0 es clock ∧ es.size ≤ k
/-- The readers: at key o the row of tag 10 + o. -/
def RMap (w : World) (m k : Nat) (V : Nat → Value) : Prop :=
  ∃ es clock, w.heap[m]? = some (.map es clock) ∧ WideElems.Fit Yba.prog 68 R0 es clock ∧ es.size ≤ k ∧ ∀ x ∈ es.toList, ∃ o : Nat, x.key = .int .u64 (o : Int) ∧ x.val = V (10 + o)

theorem WMap.lt {w : World} {m k : Nat} (h : WMap w m k) : m < w.heap.size := by obtain ⟨_, _, h, _⟩ := h; exact lt_of_block h
theorem RMap.lt {w : World} {m k : Nat} {V : Nat → Value} (h : RMap w m k V) : m < w.heap.size := by obtain ⟨_, _, h, _⟩ := h; exact lt_of_block h
theorem WMap.kept {w w' : World} {m k : Nat} (h : WMap w m k) {row : Option Nat} (hg : w.grownBy w' row) (hr : row ≠ some m) : WMap w' m k := by
  obtain ⟨es, c, h1, h2⟩ := h
  exact ⟨es, c, stay hg h1 hr, h2⟩
theorem RMap.kept {w w' : World} {m k : Nat} {V : Nat → Value} (h : RMap w m k V) {row : Option Nat} (hg : w.grownBy w' row) (hr : row ≠ some m) : RMap w' m k V := by
  obtain ⟨es, c, h1, h2⟩ := h
  exact ⟨es, c, stay hg h1 hr, h2⟩
theorem RMap.congr {w : World} {m k : Nat} {V V' : Nat → Value} (h : RMap w m k V) (hv : ∀ o, V' (10 + o) = V (10 + o)) : RMap w m k V' := by
  obtain ⟨es, c, h1, h2, h3, h4⟩ := h
  exact ⟨es, c, h1, h2, h3, fun x hx => by obtain ⟨o, e1, e2⟩ := h4 x hx; exact ⟨o, e1, by rw [hv, e2]⟩⟩
theorem WMap.mono {w : World} {m k k' : Nat} (h : WMap w m k) (hk : k ≤ k') : WMap w m k' := by
  obtain ⟨es, c, h1, h2, h3⟩ := h
  exact ⟨es, c, h1, h2, by omega⟩
theorem RMap.mono {w : World} {m k k' : Nat} {V : Nat → Value} (h : RMap w m k V) (hk : k ≤ k') : RMap w m k' V := by
  obtain ⟨es, c, h1, h2, h3, h4⟩ := h
  exact ⟨es, c, h1, h2, by omega, h4⟩
theorem ne_of_map {w : World} {m b k : Nat} {V : Nat → Value} (h : WMap w m k ∨ RMap w m k V) {cur : Array Value} {e : TypeId} {f : Nat × Nat} (hb : w.heap[b]? = some (Obj.cells cur e f)) : m ≠ b := by
  rintro rfl
  rcases h with ⟨_, _, h, _⟩ | ⟨_, _, h, _⟩
  · rw [hb] at h; simp at h
  · rw [hb] at h; simp at h

/-- THE STATE. B: the table's block; B + 1: the law's own array. -/
structure Inv (w0 w : World) (k L : Nat) (ofv wm rm : Value) (V : Nat → Value) (ps : Nat → List Nat) : Prop where
  lock : w.heap[w0.heap.size]? = some (Obj.cells #[ofv, wm, rm, .slice none 0 0] 66 (0, 0))
  byg : w.heap[w0.heap.size + 1]? = some (Obj.cells #[V 5, V 6, V 7, V 8, V 9] 79 (0, 0))
  of : w.ownsRow (w0.heap.size + 2) 64 1 ofv L ((List.range L).map V)
  rows : Rows w (w0.heap.size + 2) k V ps
  five : L ≤ 5
  out : ∀ g, L ≤ g → g < 5 → V g = .slice none 0 0 ∧ ps g = []
  holds : ∀ τ p, τ < 10 → p ∈ ps τ → ∃ cur, w.heap[p]? = some (Obj.cells cur 75 (0, 0)) ∧ cur[8]? = some (.int .i64 ((τ % 5 : Nat) : Int))
  maps : (wm = .map none ∧ rm = .map none) ∨ ∃ m1 m2, wm = .map (some m1) ∧ rm = .map (some m2) ∧ WMap w m1 k ∧ RMap w m2 k V ∧ w0.heap.size + 2 ≤ m1 ∧ w0.heap.size + 2 ≤ m2 ∧ m1 ≠ m2
  below : Below w0.heap.size w0 w

theorem Inv.start (w : World) : Inv w ((w.alloc (.cells #[.slice none 0 0, .map none, .map none, .slice none 0 0] 66)).alloc (.cells #[.slice none 0 0, .slice none 0 0, .slice none 0 0, .slice none 0 0, .slice none 0 0] 79))
    0 0 (.slice none 0 0) (.map none) (.map none) (fun _ => .slice none 0 0) (fun _ => []) := by
  refine ⟨?_, ?_, World.ownsRow_nil _ _ _ _, ⟨fun _ => World.ownsRow_nil _ _ _ _, ?_, by simp⟩, by omega, by simp, by simp, .inl ⟨rfl, rfl⟩, ?_⟩
  · rw [Below.heap_alloc _ _ _ (by simp)]
    exact heap_alloc_new w _
  · have := heap_alloc_new (w.alloc (.cells #[.slice none 0 0, .map none, .map none, .slice none 0 0] 66)) (.cells #[.slice none 0 0, .slice none 0 0, .slice none 0 0, .slice none 0 0, .slice none 0 0] 79)
    simpa using this
  · intro τ τ' b h
    simp [Value.ownBlock] at h
  · exact ((Below.refl _ _).alloc (Nat.le_refl _) _).alloc (by simp) _

theorem Inv.mono {w0 w : World} {k k' L : Nat} {ofv wm rm : Value} {V : Nat → Value} {ps : Nat → List Nat} (h : Inv w0 w k L ofv wm rm V ps) (hk : k ≤ k') : Inv w0 w k' L ofv wm rm V ps := by
  refine ⟨h.lock, h.byg, h.of, h.rows.mono hk, h.five, h.out, h.holds, ?_, h.below⟩
  rcases h.maps with hm | ⟨m1, m2, e1, e2, h1, h2, r⟩
  · exact .inl hm
  · exact .inr ⟨m1, m2, e1, e2, h1.mono hk, h2.mono hk, r⟩

theorem Inv.size {w0 w : World} {k L : Nat} {ofv wm rm : Value} {V : Nat → Value} {ps : Nat → List Nat} (h : Inv w0 w k L ofv wm rm V ps) : w0.heap.size + 2 ≤ w.heap.size := by
  have := lt_of_block h.byg
  omega

/-- New blocks alone (and draws). -/
theorem Inv.later {w0 w w' : World} {k L : Nat} {ofv wm rm : Value} {V : Nat → Value} {ps : Nat → List Nat} (h : Inv w0 w k L ofv wm rm V ps) (hg : w.grownBy w' none) : Inv w0 w' k L ofv wm rm V ps := by
  refine ⟨stay hg h.lock (by simp), stay hg h.byg (by simp), h.of.kept hg ?_, h.rows.kept hg (by simp), h.five, h.out, fun τ p hτ hp => ?_, ?_, h.below.grown hg (by have := h.size; omega) (by simp)⟩
  · cases ofv.ownBlock <;> simp
  · obtain ⟨cur, h1, h2⟩ := h.holds τ p hτ hp
    exact ⟨cur, stay hg h1 (by simp), h2⟩
  · rcases h.maps with hm | ⟨m1, m2, e1, e2, h1, h2, r⟩
    · exact .inl hm
    · exact .inr ⟨m1, m2, e1, e2, h1.kept hg (by simp), h2.kept hg (by simp), r⟩

/-- A store into a block that is neither the table, nor the law's array, nor a row, nor a hold, nor a map, is nobody's: so each limb names what it wants of the block that is written (c). -/
theorem Inv.lockSet {w0 w : World} {k L : Nat} {ofv wm rm ofv' wm' rm' : Value} {V : Nat → Value} {ps : Nat → List Nat} (h : Inv w0 w k L ofv wm rm V ps) {w' : World} (hg : w.grownBy w' (some w0.heap.size))
    (hl : w'.heap[w0.heap.size]? = some (Obj.cells #[ofv', wm', rm', .slice none 0 0] 66 (0, 0)))
    (hof : ofv' = ofv) (hm : (wm' = .map none ∧ rm' = .map none) ∨ ∃ m1 m2, wm' = .map (some m1) ∧ rm' = .map (some m2) ∧ WMap w m1 k ∧ RMap w m2 k V ∧ w0.heap.size + 2 ≤ m1 ∧ w0.heap.size + 2 ≤ m2 ∧ m1 ≠ m2) :
    Inv w0 w' k L ofv' wm' rm' V ps := by
  subst hof
  refine ⟨hl, stay hg h.byg (by simp), h.of.kept hg ?_, h.rows.kept hg ?_, h.five, h.out, fun τ p hτ hp => ?_, ?_, h.below.grown hg (by have := h.size; omega) (fun c hc => by simp at hc; omega)⟩
  · cases hv : ofv'.ownBlock with
    | none => simp
    | some b =>
      have := (h.of.lt b hv).1
      simp
      omega
  · intro c cur f hc hcc
    simp at hc
    subst hc
    rw [h.lock] at hcc
    simp at hcc
  · obtain ⟨cur, h1, h2⟩ := h.holds τ p hτ hp
    refine ⟨cur, stay hg h1 ?_, h2⟩
    intro e
    simp at e
    rw [← e, h.lock] at h1
    simp at h1
  · rcases hm with hm | ⟨m1, m2, e1, e2, h1, h2, l1, l2, r⟩
    · exact .inl hm
    · exact .inr ⟨m1, m2, e1, e2, h1.kept hg (by simp; omega), h2.kept hg (by simp; omega), l1, l2, r⟩

theorem fit_empty : WideElems.Fit Yba.prog 68 R0 #[] 0 :=
  ⟨by simp, (MapKept.stamped_iff #[] 0).2 ⟨by simp, by simp, by simp⟩, by simp⟩

/-- The two maps are made. -/
theorem Inv.made {w0 w : World} {k L : Nat} {ofv : Value} {V : Nat → Value} {ps : Nat → List Nat} (h : Inv w0 w k L ofv (.map none) (.map none) V ps) :
    Inv w0 ((((w.alloc (.map #[] 0)).alloc (.map #[] 0)).setCell ⟨w0.heap.size, 1, none⟩ (.map (some w.heap.size))).setCell ⟨w0.heap.size, 2, none⟩ (.map (some (w.heap.size + 1)))) k L ofv (.map (some w.heap.size)) (.map (some (w.heap.size + 1))) V ps := by
  have hsz := h.size
  have h1 : Inv w0 ((w.alloc (.map #[] 0)).alloc (.map #[] 0)) k L ofv (.map none) (.map none) V ps := (h.later (World.grownBy_alloc w _ none)).later (World.grownBy_alloc _ _ none)
  have b1 : ((w.alloc (.map #[] 0)).alloc (.map #[] 0)).heap[w.heap.size]? = some (.map #[] 0) := by
    rw [Below.heap_alloc _ _ _ (by simp)]
    exact heap_alloc_new w _
  have b2 : ((w.alloc (.map #[] 0)).alloc (.map #[] 0)).heap[w.heap.size + 1]? = some (.map #[] 0) := by
    have := heap_alloc_new (w.alloc (.map #[] 0)) (.map #[] 0)
    simpa using this
  have g1 := grown_setCell ((w.alloc (.map #[] 0)).alloc (.map #[] 0)) w0.heap.size 1 (.map (some w.heap.size))
  have g2 := grown_setCell (((w.alloc (.map #[] 0)).alloc (.map #[] 0)).setCell ⟨w0.heap.size, 1, none⟩ (.map (some w.heap.size))) w0.heap.size 2 (.map (some (w.heap.size + 1)))
  have l1 := heap_setCell_same _ w0.heap.size 1 _ 66 (.map (some w.heap.size)) h1.lock
  have l2 := heap_setCell_same _ w0.heap.size 2 _ 66 (.map (some (w.heap.size + 1))) l1
  refine h1.lockSet (⟨rfl, rfl, rfl, Nat.le_trans g1.size g2.size, fun b hb hr => ?_⟩) (by simpa using l2) rfl (.inr ⟨_, _, rfl, rfl, ⟨#[], 0, b1, fit_empty, by simp⟩, ⟨#[], 0, b2, fit_empty, by simp, by simp⟩, by omega, by omega, by omega⟩)
  rw [g2.block b (Nat.lt_of_lt_of_le hb g1.size) hr, g1.block b hb hr]

/-- The table grows by a nil row. -/
theorem Inv.extend {w0 w w1 : World} {k L g cap : Nat} {ofv wm rm : Value} {V : Nat → Value} {ps : Nat → List Nat} {o : Obj} (h : Inv w0 w k L ofv wm rm V ps) (hL : L < 5)
    (hown : w1.ownsRow (w0.heap.size + 2) 64 1 (.slice (some ⟨g, 0, none⟩) (L + 1) cap) (L + 1) ((List.range L).map V ++ [.slice none 0 0])) (hgrow : (w.alloc o).grownBy w1 ofv.ownBlock) :
    Inv w0 (w1.setCell ⟨w0.heap.size, 0, none⟩ (.slice (some ⟨g, 0, none⟩) (L + 1) cap)) k (L + 1) (.slice (some ⟨g, 0, none⟩) (L + 1) cap) wm rm V ps := by
  have ha := h.later (World.grownBy_alloc w o none)
  have hsz := ha.size
  have hblk := ownsRow_block ha.of
  have hlt := ha.of.lt
  have hlock1 : w1.heap[w0.heap.size]? = some (Obj.cells #[ofv, wm, rm, .slice none 0 0] 66 (0, 0)) := stay hgrow ha.lock (fun e => by have := (hlt _ e).1; omega)
  have g1 := grown_setCell w1 w0.heap.size 0 (.slice (some ⟨g, 0, none⟩) (L + 1) cap)
  have l1 := heap_setCell_same _ w0.heap.size 0 _ 66 (.slice (some ⟨g, 0, none⟩) (L + 1) cap) hlock1
  have hV : V L = .slice none 0 0 := (h.out L (Nat.le_refl _) hL).1
  have hno : ∀ {b : Nat} {cur : Array Value} {e : TypeId} {f : Nat × Nat}, (w.alloc o).heap[b]? = some (Obj.cells cur e f) → e ≠ 64 → ofv.ownBlock ≠ some b := by
    intro b cur e f hb he hv
    obtain ⟨c, hc⟩ := hblk b hv
    rw [hb] at hc
    simp at hc
    exact he hc.2.1
  have hnm : ∀ {m : Nat}, WMap (w.alloc o) m k ∨ RMap (w.alloc o) m k V → ofv.ownBlock ≠ some m := by
    intro m hm hv
    obtain ⟨c, hc⟩ := hblk m hv
    exact ne_of_map hm hc rfl
  refine ⟨by simpa using l1, ?_, ?_, ?_, by omega, fun g hg h5 => h.out g (by omega) h5, fun τ p hτ hp => ?_, ?_, ?_⟩
  · exact stay g1 (stay hgrow ha.byg (fun e => by have := (hlt _ e).1; omega)) (by simp)
  · rw [List.range_succ, List.map_append, List.map_singleton, hV]
    exact ownsRow_setCell_below hown (by simp) _
  · refine (ha.rows.kept hgrow fun c cur f hc hcc => ?_).kept g1 fun c cur f hc hcc => ?_
    · exact hno hcc (by decide) hc
    · simp at hc
      subst hc
      rw [hlock1] at hcc
      simp at hcc
  · obtain ⟨cur, h1, h2⟩ := ha.holds τ p hτ hp
    have h3 := stay hgrow h1 (hno h1 (by decide))
    refine ⟨cur, stay g1 h3 ?_, h2⟩
    intro e
    simp at e
    rw [← e, hlock1] at h3
    simp at h3
  · rcases ha.maps with hm | ⟨m1, m2, e1, e2, h1, h2, l1, l2, r⟩
    · exact .inl hm
    · exact .inr ⟨m1, m2, e1, e2, (h1.kept hgrow (hnm (.inl h1))).kept g1 (by simp; omega), (h2.kept hgrow (hnm (.inr h2))).kept g1 (by simp; omega), l1, l2, r⟩
  · refine Below.setCell (p := ⟨w0.heap.size, 0, none⟩) (ha.below.grown hgrow (by omega) fun c hc => ?_) (by simp) _
    have := (hlt c hc).1
    omega

/-- What is no row of pointers stays while a row of pointers grows. -/
theorem Inv.core {w0 w w1 : World} {k L : Nat} {ofv wm rm : Value} {V : Nat → Value} {ps : Nat → List Nat} {o : Obj} {row : Option Nat} (h : Inv w0 w k L ofv wm rm V ps)
    (hgrow : (w.alloc o).grownBy w1 row) (hrow : ∀ (b : Nat), row = some b → w0.heap.size + 2 ≤ b ∧ ∃ cur, w.heap[b]? = some (Obj.cells cur 67 (0, 0))) :
    w1.heap[w0.heap.size]? = some (Obj.cells #[ofv, wm, rm, .slice none 0 0] 66 (0, 0)) ∧ w1.heap[w0.heap.size + 1]? = some (Obj.cells #[V 5, V 6, V 7, V 8, V 9] 79 (0, 0)) ∧
    w1.ownsRow (w0.heap.size + 2) 64 1 ofv L ((List.range L).map V) ∧ (∀ (b : Nat) (cur : Array Value), w.heap[b]? = some (Obj.cells cur 75 (0, 0)) → w1.heap[b]? = some (Obj.cells cur 75 (0, 0))) ∧
    ((wm = .map none ∧ rm = .map none) ∨ ∃ m1 m2, wm = .map (some m1) ∧ rm = .map (some m2) ∧ WMap w1 m1 k ∧ RMap w1 m2 k V ∧ w0.heap.size + 2 ≤ m1 ∧ w0.heap.size + 2 ≤ m2 ∧ m1 ≠ m2) ∧ Below w0.heap.size w0 w1 := by
  have ha := h.later (World.grownBy_alloc w o none)
  have hsz := h.size
  have hrow' : ∀ (b : Nat), row = some b → ∃ cur, (w.alloc o).heap[b]? = some (Obj.cells cur 67 (0, 0)) := fun b hb => by
    obtain ⟨_, cur, hc⟩ := hrow b hb
    exact ⟨cur, (Below.heap_alloc _ _ _ (lt_of_block hc)).trans hc⟩
  have hno : ∀ {b : Nat} {cur : Array Value} {e : TypeId} {f : Nat × Nat}, (w.alloc o).heap[b]? = some (Obj.cells cur e f) → e ≠ 67 → row ≠ some b := by
    intro b cur e f hb he hv
    obtain ⟨c, hc⟩ := hrow' b hv
    rw [hb] at hc
    simp at hc
    exact he hc.2.1
  have hnm : ∀ {m : Nat}, WMap (w.alloc o) m k ∨ RMap (w.alloc o) m k V → row ≠ some m := by
    intro m hm hv
    obtain ⟨c, hc⟩ := hrow' m hv
    exact ne_of_map hm hc rfl
  refine ⟨stay hgrow ha.lock (hno ha.lock (by decide)), stay hgrow ha.byg (hno ha.byg (by decide)), ha.of.kept hgrow ?_, fun b cur hb => ?_, ?_, ha.below.grown hgrow (by have := ha.size; omega) fun b hb => by have := (hrow b hb).1; omega⟩
  · cases hv : ofv.ownBlock with
    | none => exact .inl rfl
    | some b =>
      right
      intro e
      obtain ⟨c, hc⟩ := ownsRow_block ha.of b hv
      exact hno hc (by decide) e.symm
  · have hb' : (w.alloc o).heap[b]? = some (Obj.cells cur 75 (0, 0)) := (Below.heap_alloc _ _ _ (lt_of_block hb)).trans hb
    exact stay hgrow hb' (hno hb' (by decide))
  · rcases ha.maps with hm | ⟨m1, m2, e1, e2, h1, h2, r⟩
    · exact .inl hm
    · exact .inr ⟨m1, m2, e1, e2, h1.kept hgrow (hnm (.inl h1)), h2.kept hgrow (hnm (.inr h2)), r⟩

theorem Inv.rowOf {w0 w : World} {k L : Nat} {ofv wm rm : Value} {V : Nat → Value} {ps : Nat → List Nat} (h : Inv w0 w k L ofv wm rm V ps) (τ : Nat) :
    ∀ b, (V τ).ownBlock = some b → w0.heap.size + 2 ≤ b ∧ ∃ cur, w.heap[b]? = some (Obj.cells cur 67 (0, 0)) :=
  fun b hb => ⟨((h.rows.own τ).lt b hb).1, ownsRow_block (h.rows.own τ) b hb⟩

theorem holds_push {w w1 : World} {ps : Nat → List Nat} {t p : Nat} {cur : Array Value} (hh : ∀ τ p, τ < 10 → p ∈ ps τ → ∃ cur, w.heap[p]? = some (Obj.cells cur 75 (0, 0)) ∧ cur[8]? = some (.int .i64 ((τ % 5 : Nat) : Int)))
    (hs : ∀ (b : Nat) (cur : Array Value), w.heap[b]? = some (Obj.cells cur 75 (0, 0)) → w1.heap[b]? = some (Obj.cells cur 75 (0, 0))) (hp : w.heap[p]? = some (Obj.cells cur 75 (0, 0))) (hc : cur[8]? = some (.int .i64 ((t % 5 : Nat) : Int))) :
    ∀ τ q, τ < 10 → q ∈ upd ps t (ps t ++ [p]) τ → ∃ cur, w1.heap[q]? = some (Obj.cells cur 75 (0, 0)) ∧ cur[8]? = some (.int .i64 ((τ % 5 : Nat) : Int)) := by
  intro τ q hτ hq
  by_cases e : τ = t
  · subst e
    rw [upd_same] at hq
    rcases List.mem_append.1 hq with hq | hq
    · obtain ⟨c, h1, h2⟩ := hh τ q hτ hq
      exact ⟨c, hs q c h1, h2⟩
    · simp at hq
      subst hq
      exact ⟨cur, hs q cur hp, hc⟩
  · rw [upd_other _ _ e] at hq
    obtain ⟨c, h1, h2⟩ := hh τ q hτ hq
    exact ⟨c, hs q c h1, h2⟩

theorem range_set {V : Nat → Value} {L g : Nat} (u : Value) : ((List.range L).map V).set g u = (List.range L).map (upd V g u) := by
  apply List.ext_getElem?
  intro j
  rw [List.getElem?_set]
  by_cases hj : g = j
  · subst hj
    by_cases hg : g < L
    · simp [hg, upd_same]
    · simp [hg]
  · by_cases hL : j < L
    · simp [hj, hL, upd_other V u (Ne.symm hj)]
    · simp [hj, hL]

/-- 'l.of[g] = append(held, h)'. -/
theorem Inv.pushOf {w0 w w1 : World} {k L gv cv g gn cap p : Nat} {wm rm : Value} {V : Nat → Value} {ps : Nat → List Nat} {o : Obj} {cur : Array Value} (h : Inv w0 w k L (.slice (some ⟨gv, 0, none⟩) L cv) wm rm V ps) (hg : g < L)
    (hp : w.heap[p]? = some (Obj.cells cur 75 (0, 0))) (hc : cur[8]? = some (.int .i64 (g : Int)))
    (hown : w1.ownsRow (w0.heap.size + 2) 67 1 (.slice (some ⟨gn, 0, none⟩) ((ps g).length + 1) cap) ((ps g).length + 1) ((ps g).map ptr ++ [ptr p]))
    (hgrow : (w.alloc o).grownBy w1 (V g).ownBlock) (hat : (V g).ownBlock = some gn ∨ gn = w.heap.size + 1) :
    Inv w0 (w1.setCell ⟨gv, g, none⟩ (.slice (some ⟨gn, 0, none⟩) ((ps g).length + 1) cap)) (k + 1) L (.slice (some ⟨gv, 0, none⟩) L cv) wm rm (upd V g (.slice (some ⟨gn, 0, none⟩) ((ps g).length + 1) cap)) (upd ps g (ps g ++ [p])) := by
  have h5 := h.five
  obtain ⟨c1, c2, c3, c4, c5, c6⟩ := h.core hgrow (h.rowOf g)
  obtain ⟨cv64, hgv⟩ := ownsRow_block c3 gv rfl
  have hgv2 : w0.heap.size + 2 ≤ gv := (c3.lt gv rfl).1
  have gs := grown_setCell w1 gv g (.slice (some ⟨gn, 0, none⟩) ((ps g).length + 1) cap)
  have hno : ∀ {b : Nat} {cur : Array Value} {e : TypeId} {f : Nat × Nat}, w1.heap[b]? = some (Obj.cells cur e f) → e ≠ 64 → some gv ≠ some b := by
    intro b cur e f hb he hv
    simp at hv
    subst hv
    rw [hb] at hgv
    simp at hgv
    exact he hgv.2.1
  have u5 : ∀ j, 5 ≤ j → upd V g (.slice (some ⟨gn, 0, none⟩) ((ps g).length + 1) cap) j = V j := fun j hj => upd_other V _ (by omega)
  refine ⟨stay gs c1 (hno c1 (by decide)), ?_, ?_, ?_, h5, fun j hj h5 => ?_, ?_, ?_, ?_⟩
  · rw [u5 5 (by omega), u5 6 (by omega), u5 7 (by omega), u5 8 (by omega), u5 9 (by omega)]
    exact stay gs c2 (hno c2 (by decide))
  · have := (c3.stored g (.slice (some ⟨gn, 0, none⟩) ((ps g).length + 1) cap)).1
    rwa [range_set] at this
  · refine Rows.kept ?_ gs fun c cur f hc hcc => ?_
    · exact h.rows.push (fun τ b hτ hu hv => hτ (h.rows.apart τ g b hv hu)) (h.rows.few g) hown hgrow hat
    · exact hno hcc (by decide) hc
  · rw [upd_other _ _ (by omega), upd_other _ _ (by omega)]
    exact h.out j hj h5
  · refine holds_push h.holds (fun b cur hb => ?_) hp (by rw [hc, Nat.mod_eq_of_lt (by omega)])
    have := c4 b cur hb
    exact stay gs this (hno this (by decide))
  · rcases c5 with hm | ⟨m1, m2, e1, e2, h1, h2, l1, l2, r⟩
    · exact .inl hm
    · refine .inr ⟨m1, m2, e1, e2, (h1.kept gs ?_).mono (by omega), ((h2.kept gs ?_).mono (by omega)).congr fun o => u5 _ (by omega), l1, l2, r⟩
      · have := ne_of_map (V := V) (.inl h1) hgv
        simpa using fun e => this e.symm
      · have := ne_of_map (.inr h2) hgv
        simpa using fun e => this e.symm
  · exact Below.setCell (p := ⟨gv, g, none⟩) c6 (by simp; omega) _

/-- 'byg[g] = append(byg[g], h)'. -/
theorem Inv.pushByg {w0 w w1 : World} {k L g gn cap p : Nat} {ofv wm rm : Value} {V : Nat → Value} {ps : Nat → List Nat} {o : Obj} {cur : Array Value} (h : Inv w0 w k L ofv wm rm V ps) (hg : g < 5)
    (hp : w.heap[p]? = some (Obj.cells cur 75 (0, 0))) (hc : cur[8]? = some (.int .i64 (g : Int)))
    (hown : w1.ownsRow (w0.heap.size + 2) 67 1 (.slice (some ⟨gn, 0, none⟩) ((ps (5 + g)).length + 1) cap) ((ps (5 + g)).length + 1) ((ps (5 + g)).map ptr ++ [ptr p]))
    (hgrow : (w.alloc o).grownBy w1 (V (5 + g)).ownBlock) (hat : (V (5 + g)).ownBlock = some gn ∨ gn = w.heap.size + 1) :
    Inv w0 (w1.setCell ⟨w0.heap.size + 1, g, none⟩ (.slice (some ⟨gn, 0, none⟩) ((ps (5 + g)).length + 1) cap)) (k + 1) L ofv wm rm (upd V (5 + g) (.slice (some ⟨gn, 0, none⟩) ((ps (5 + g)).length + 1) cap)) (upd ps (5 + g) (ps (5 + g) ++ [p])) := by
  have h5 := h.five
  obtain ⟨c1, c2, c3, c4, c5, c6⟩ := h.core hgrow (h.rowOf (5 + g))
  have gs := grown_setCell w1 (w0.heap.size + 1) g (.slice (some ⟨gn, 0, none⟩) ((ps (5 + g)).length + 1) cap)
  have hno : ∀ {b : Nat} {cur : Array Value} {e : TypeId} {f : Nat × Nat}, w1.heap[b]? = some (Obj.cells cur e f) → e ≠ 79 → some (w0.heap.size + 1) ≠ some b := by
    intro b cur e f hb he hv
    simp at hv
    subst hv
    rw [hb] at c2
    simp at c2
    exact he c2.2.1
  have u5 : ∀ j, j < 5 ∨ 10 ≤ j → upd V (5 + g) (.slice (some ⟨gn, 0, none⟩) ((ps (5 + g)).length + 1) cap) j = V j := fun j hj => upd_other V _ (by omega)
  refine ⟨stay gs c1 (hno c1 (by decide)), ?_, ?_, ?_, h5, fun j hj h5 => ?_, ?_, ?_, ?_⟩
  · rw [heap_setCell_same _ _ g _ 79 _ c2]
    obtain rfl | rfl | rfl | rfl | rfl : g = 0 ∨ g = 1 ∨ g = 2 ∨ g = 3 ∨ g = 4 := by omega
    all_goals simp [upd]
  · refine (show ((List.range L).map V) = ((List.range L).map (upd V (5 + g) (.slice (some ⟨gn, 0, none⟩) ((ps (5 + g)).length + 1) cap))) from ?_) ▸ (c3.kept gs ?_)
    · refine List.map_congr_left fun j hj => ?_
      rw [List.mem_range] at hj
      exact (u5 j (by omega)).symm
    · cases hv : ofv.ownBlock with
      | none => exact .inl rfl
      | some b =>
        right
        intro e
        have := (c3.lt b hv).1
        simp at e
        omega
  · refine Rows.kept ?_ gs fun c cur f hc hcc => ?_
    · exact h.rows.push (fun τ b hτ hu hv => hτ (h.rows.apart τ _ b hv hu)) (h.rows.few _) hown hgrow hat
    · exact hno hcc (by decide) hc
  · rw [upd_other _ _ (by omega), upd_other _ _ (by omega)]
    exact h.out j hj h5
  · refine holds_push h.holds (fun b cur hb => ?_) hp (by rw [hc]; congr 2; omega)
    have := c4 b cur hb
    exact stay gs this (hno this (by decide))
  · rcases c5 with hm | ⟨m1, m2, e1, e2, h1, h2, l1, l2, r⟩
    · exact .inl hm
    · exact .inr ⟨m1, m2, e1, e2, (h1.kept gs (by simp; omega)).mono (by omega), ((h2.kept gs (by simp; omega)).mono (by omega)).congr fun o => u5 _ (by omega), l1, l2, r⟩
  · exact Below.setCell (p := ⟨w0.heap.size + 1, g, none⟩) c6 (by simp) _

theorem keyed68 : Maps.Keyed Yba.prog 68 := Maps.int_keyed Yba.underlying68

/-- A map's block is written: all but that map stands. -/
theorem Inv.mapSet {w0 w w' : World} {k L m : Nat} {ofv wm rm : Value} {V : Nat → Value} {ps : Nat → List Nat} {es : Array MapEntry} {c : Nat} (h : Inv w0 w k L ofv wm rm V ps) (hm : w.heap[m]? = some (.map es c)) (hm2 : w0.heap.size + 2 ≤ m)
    (hg : w.grownBy w' (some m))
    (hmm : (wm = .map none ∧ rm = .map none) ∨ ∃ m1 m2, wm = .map (some m1) ∧ rm = .map (some m2) ∧ WMap w' m1 k ∧ RMap w' m2 k V ∧ w0.heap.size + 2 ≤ m1 ∧ w0.heap.size + 2 ≤ m2 ∧ m1 ≠ m2) : Inv w0 w' k L ofv wm rm V ps := by
  have hno : ∀ {b : Nat} {cur : Array Value} {e : TypeId} {f : Nat × Nat}, w.heap[b]? = some (Obj.cells cur e f) → some m ≠ some b := by
    intro b cur e f hb hv
    simp at hv
    subst hv
    rw [hb] at hm
    simp at hm
  refine ⟨stay hg h.lock (hno h.lock), stay hg h.byg (hno h.byg), h.of.kept hg ?_, h.rows.kept hg fun c cur f hc hcc => hno hcc hc, h.five, h.out, fun τ p hτ hp => ?_, hmm, h.below.grown hg (by have := h.size; omega) fun c hc => by simp at hc; omega⟩
  · cases hv : ofv.ownBlock with
    | none => exact .inl rfl
    | some b =>
      right
      intro e
      obtain ⟨cc, hcc⟩ := ownsRow_block h.of b hv
      exact hno hcc e.symm
  · obtain ⟨cur, h1, h2⟩ := h.holds τ p hτ hp
    exact ⟨cur, stay hg h1 (hno h1), h2⟩

/-- Holds stay. -/
def Holds75 (w w' : World) : Prop := ∀ (b : Nat) (cur : Array Value), w.heap[b]? = some (Obj.cells cur 75 (0, 0)) → w'.heap[b]? = some (Obj.cells cur 75 (0, 0))

theorem Holds75.grown {w w' : World} {row : Option Nat} (hg : w.grownBy w' row) (hr : ∀ c cur, row = some c → w.heap[c]? ≠ some (Obj.cells cur 75 (0, 0))) : Holds75 w w' :=
  fun b cur hb => stay hg hb fun e => hr b cur e hb

theorem Holds75.trans {a b c : World} (h : Holds75 a b) (k : Holds75 b c) : Holds75 a c := fun x cur hx => k x cur (h x cur hx)

theorem Holds75.setBlock {w : World} {m c : Nat} {es : Array MapEntry} (hm : w.heap[m]? = some (.map es c)) (o : Obj) : Holds75 w (ChangeMaps.setBlock w m o) :=
  Holds75.grown (grown_setBlock w m o) fun x cur e hx => by
    simp at e
    subst e
    rw [hm] at hx
    simp at hx

open Go.ChangeMaps Go.WideElems in
theorem store_size {es es' : Array MapEntry} {k : Nat} {kl : Lit} (hput : (es'.toList.map (rg Yba.prog 68 R0)).foldr DataW.insert [] = putKey kl .nil ((es.toList.map (rg Yba.prog 68 R0)).foldr DataW.insert [])) (hs : es.size ≤ k) : es'.size ≤ k + 1 := by
  have e1 : es'.size = ((es'.toList.map (rg Yba.prog 68 R0)).foldr DataW.insert []).length := by rw [length_sorted]; simp
  rw [e1, hput]
  unfold putKey
  rw [length_insert]
  have e2 := List.length_filter_le (notKey kl) ((es.toList.map (rg Yba.prog 68 R0)).foldr DataW.insert [])
  rw [length_sorted] at e2
  simp at e2
  omega

/-- 'l.writers[o] = h'. -/
theorem Inv.wstore {w0 w : World} {k L m1 : Nat} {ofv rm : Value} {V : Nat → Value} {ps : Nat → List Nat} (h : Inv w0 w k L ofv (.map (some m1)) rm V ps) (hk : k < maxLen) (o : Int) (wo : (Lit.int .u64 o).wf = true) (val : Value) :
    ∃ w', (Instr.mapUpdate 62 (.map (some m1)) (.int .u64 o) val).run Yba.prog w = .ok () w' ∧ Inv w0 w' (k + 1) L ofv (.map (some m1)) rm V ps ∧ Holds75 w w' := by
  rcases h.maps with ⟨e, _⟩ | ⟨m1', m2, e1, e2, ⟨es, c, hb, F, hs⟩, h2, l1, l2, hne⟩
  · simp at e
  simp at e1
  subst e1
  obtain ⟨es', c', hrun, F', hput, _⟩ := Maps.fit_store (R' := R0) keyed68 Yba.underlying62 hb F (by omega) (val := val) (fun _ _ _ z hz => hz) (Maps.keyOf_int_mk Yba.underlying68 wo) (rfl : R0 val = some (.nil, []))
  refine ⟨_, hrun, ?_, Holds75.setBlock hb _⟩
  exact ((h.mono (Nat.le_succ k)).mapSet hb l1 (grown_setBlock _ _ _) (.inr ⟨m1, m2, rfl, e2, ⟨es', c', ChangeMaps.heap_setBlock_same hb _, F', store_size hput hs⟩, (h2.mono (by omega)).kept (grown_setBlock _ _ _) (by simpa using hne), l1, l2, hne⟩))

theorem zero64 (w : World) : (zeroValue 64).run Yba.prog w = .ok (.slice none 0 0) w := by kernel_rfl

theorem one_of {es : List MapEntry} (hn : es.Pairwise (fun x y => x.key ≠ y.key)) {a b : MapEntry} (ha : a ∈ es) (hb : b ∈ es) (h : a.key = b.key) : a = b := by
  induction es with
  | nil => simp at ha
  | cons x l ih =>
    rw [List.pairwise_cons] at hn
    rcases List.mem_cons.1 ha with rfl | ha1
    · rcases List.mem_cons.1 hb with rfl | hb
      · rfl
      · exact absurd h (hn.1 b hb)
    · rcases List.mem_cons.1 hb with rfl | hb
      · exact absurd h.symm (hn.1 a ha1)
      · exact ih hn.2 ha1 hb

/-- 'l.readers[o]': nil, or the row of tag 10 + o; the same in every world in which the map's block stands. -/
theorem Inv.rlook {w0 w : World} {k L m2 : Nat} {ofv wm : Value} {V : Nat → Value} {ps : Nat → List Nat} (h : Inv w0 w k L ofv wm (.map (some m2)) V ps) (o : Nat) (wo : (Lit.int .u64 (o : Int)).wf = true) :
    ∃ (u : Value) (us : List Nat), (∀ w', w'.heap[m2]? = w.heap[m2]? → (Instr.lookup 63 (.map (some m2)) (.int .u64 (o : Int)) false).run Yba.prog w' = .ok u w') ∧ w.ownsRow (w0.heap.size + 2) 67 1 u us.length (us.map ptr) ∧ us.length ≤ k ∧
      (∀ τ b, τ ≠ 10 + o → u.ownBlock = some b → (V τ).ownBlock ≠ some b) := by
  rcases h.maps with ⟨_, e⟩ | ⟨m1, m2', e1, e2, h1, ⟨es, c, hb, F, hs, hx⟩, l1, l2, hne⟩
  · simp at e
  simp at e2
  subst e2
  have hkey := Maps.keyOf_int_mk Yba.underlying68 wo
  by_cases hex : ∃ e0, e0 ∈ es.toList ∧ e0.key = .int .u64 (o : Int)
  · obtain ⟨e0, hm0, hk0⟩ := hex
    obtain ⟨o', ho', hv⟩ := hx e0 hm0
    rw [hk0] at ho'
    simp at ho'
    have ho : o = o' := by omega
    subst ho
    refine ⟨V (10 + o), ps (10 + o), fun w' hw' => ?_, h.rows.own _, h.rows.few _, fun τ b hτ hu hvv => hτ (h.rows.apart τ _ b hvv hu)⟩
    rcases Maps.fit_look false keyed68 Yba.underlying63 (zero64 w') (hw'.trans hb) F hkey with ⟨_, hno, _⟩ | ⟨e1, y, hm1, hk1, hrun, _⟩
    · exact absurd hk0 (hno e0 hm0)
    · have hn : es.toList.Pairwise (fun x y => x.key ≠ y.key) := ((MapKept.stamped_iff es c).1 F.stamped).2.2
      rw [one_of hn hm1 hm0 (hk1.trans hk0.symm), hv] at hrun
      simpa using hrun
  · refine ⟨.slice none 0 0, [], fun w' hw' => ?_, World.ownsRow_nil _ _ _ _, by simp, by simp [Value.ownBlock]⟩
    rcases Maps.fit_look false keyed68 Yba.underlying63 (zero64 w') (hw'.trans hb) F hkey with ⟨hrun, _⟩ | ⟨e1, y, hm1, hk1, _⟩
    · simpa using hrun
    · exact absurd ⟨e1, hm1, hk1⟩ hex

/-- 'l.readers[o] = append(l.readers[o], h)'. -/
theorem Inv.pushReader {w0 w w1 : World} {k L m2 o gn cap p : Nat} {ofv wm u : Value} {us : List Nat} {V : Nat → Value} {ps : Nat → List Nat} {ob : Obj} (h : Inv w0 w k L ofv wm (.map (some m2)) V ps) (hk : k < maxLen) (wo : (Lit.int .u64 (o : Int)).wf = true)
    (hu : w.ownsRow (w0.heap.size + 2) 67 1 u us.length (us.map ptr)) (hus : us.length ≤ k) (hut : ∀ τ b, τ ≠ 10 + o → u.ownBlock = some b → (V τ).ownBlock ≠ some b)
    (hown : w1.ownsRow (w0.heap.size + 2) 67 1 (.slice (some ⟨gn, 0, none⟩) (us.length + 1) cap) (us.length + 1) (us.map ptr ++ [ptr p]))
    (hgrow : (w.alloc ob).grownBy w1 u.ownBlock) (hat : u.ownBlock = some gn ∨ gn = w.heap.size + 1) :
    ∃ w', (Instr.mapUpdate 63 (.map (some m2)) (.int .u64 (o : Int)) (.slice (some ⟨gn, 0, none⟩) (us.length + 1) cap)).run Yba.prog w1 = .ok () w' ∧
      Inv w0 w' (k + 1) L ofv wm (.map (some m2)) (upd V (10 + o) (.slice (some ⟨gn, 0, none⟩) (us.length + 1) cap)) (upd ps (10 + o) (us ++ [p])) ∧ Holds75 w w' := by
  obtain ⟨c1, c2, c3, c4, c5, c6⟩ := h.core hgrow (fun b hb => ⟨(hu.lt b hb).1, ownsRow_block hu b hb⟩)
  rcases c5 with ⟨_, e⟩ | ⟨m1, m2', e1, e2, h1, ⟨es, c, hb, F, hs, hx⟩, l1, l2, hne⟩
  · simp at e
  simp at e2
  subst e2
  obtain ⟨es', c', hrun, F', hput, _, _, hmem⟩ := Maps.fit_store (R' := R0) keyed68 Yba.underlying63 hb F (by omega) (val := .slice (some ⟨gn, 0, none⟩) (us.length + 1) cap) (fun _ _ _ z hz => hz) (Maps.keyOf_int_mk Yba.underlying68 wo) (rfl : R0 (.slice (some ⟨gn, 0, none⟩) (us.length + 1) cap) = some (.nil, []))
  have gs := grown_setBlock w1 m2 (.map es' c')
  have hno : ∀ {b : Nat} {cur : Array Value} {e : TypeId} {f : Nat × Nat}, w1.heap[b]? = some (Obj.cells cur e f) → some m2 ≠ some b := by
    intro b cur e f hb' hv
    simp at hv
    subst hv
    rw [hb'] at hb
    simp at hb
  have u5 : ∀ j, j < 10 → upd V (10 + o) (.slice (some ⟨gn, 0, none⟩) (us.length + 1) cap) j = V j := fun j hj => upd_other V _ (by omega)
  refine ⟨_, hrun, ⟨stay gs c1 (hno c1), ?_, ?_, ?_, h.five, fun j hj h5 => ?_, fun τ q hτ hq => ?_, ?_, ?_⟩, fun b cur hb' => Holds75.setBlock hb _ b cur (c4 b cur hb')⟩
  · rw [u5 5 (by omega), u5 6 (by omega), u5 7 (by omega), u5 8 (by omega), u5 9 (by omega)]
    exact stay gs c2 (hno c2)
  · have h5 := h.five
    refine (show ((List.range L).map V) = ((List.range L).map (upd V (10 + o) (.slice (some ⟨gn, 0, none⟩) (us.length + 1) cap))) from ?_) ▸ (c3.kept gs ?_)
    · refine List.map_congr_left fun j hj => ?_
      rw [List.mem_range] at hj
      exact (u5 j (by omega)).symm
    · cases hv : ofv.ownBlock with
      | none => exact .inl rfl
      | some b =>
        right
        intro e
        obtain ⟨cc, hcc⟩ := ownsRow_block c3 b hv
        exact hno hcc e.symm
  · exact (h.rows.push hut hus hown hgrow hat).kept gs fun c cur f hc hcc => hno hcc hc
  · rw [upd_other _ _ (by omega), upd_other _ _ (by omega)]
    exact h.out j hj h5
  · rw [upd_other _ _ (by omega)] at hq
    obtain ⟨cur, g1, g2⟩ := h.holds τ q hτ hq
    have := c4 q cur g1
    exact ⟨cur, stay gs this (hno this), g2⟩
  · refine .inr ⟨m1, m2, e1, rfl, (h1.kept gs (by simpa using fun e => hne e.symm)).mono (by omega), ⟨es', c', ChangeMaps.heap_setBlock_same hb _, F', store_size hput hs, fun x hx' => ?_⟩, l1, l2, hne⟩
    rcases hmem x hx' with ⟨hin, hk'⟩ | ⟨hk', hv'⟩
    · obtain ⟨o', ho', hv⟩ := hx x hin
      refine ⟨o', ho', ?_⟩
      have hne' : 10 + o' ≠ 10 + o := fun e => by
        have e' : o' = o := by omega
        exact hk' (by rw [ho', e'])
      rw [upd_other _ _ hne', hv]
    · exact ⟨o, hk', by rw [upd_same, hv']⟩
  · exact c6.grown gs (by have := h.size; have := hgrow.size; simp at this; omega) fun c hc => by simp at hc; omega

theorem Inv.made75 {w0 w : World} {k L : Nat} {ofv wm rm : Value} {V : Nat → Value} {ps : Nat → List Nat} (h : Inv w0 w k L ofv wm rm V ps) (x y : Value) :
    Holds75 w ((((w.alloc (.map #[] 0)).alloc (.map #[] 0)).setCell ⟨w0.heap.size, 1, none⟩ x).setCell ⟨w0.heap.size, 2, none⟩ y) := by
  intro b cur hb
  have hne : w0.heap.size ≠ b := by
    rintro rfl
    rw [h.lock] at hb
    simp at hb
  have hl := lt_of_block hb
  refine stay (grown_setCell _ _ _ _) (stay (grown_setCell _ _ _ _) ?_ (by simpa using hne)) (by simpa using hne)
  rw [Below.heap_alloc _ _ _ (by simp; omega), Below.heap_alloc _ _ _ hl]
  exact hb

theorem Inv.extend75 {w0 w w1 : World} {k L : Nat} {ofv wm rm : Value} {V : Nat → Value} {ps : Nat → List Nat} {o : Obj} (h : Inv w0 w k L ofv wm rm V ps) (hgrow : (w.alloc o).grownBy w1 ofv.ownBlock) (u : Value) :
    Holds75 w (w1.setCell ⟨w0.heap.size, 0, none⟩ u) := by
  intro b cur hb
  have hb' : (w.alloc o).heap[b]? = some (Obj.cells cur 75 (0, 0)) := (Below.heap_alloc _ _ _ (lt_of_block hb)).trans hb
  have hb1 : w1.heap[b]? = some (Obj.cells cur 75 (0, 0)) := stay hgrow hb' fun e => by
    obtain ⟨c, hc⟩ := ownsRow_block (h.of.alloc o) b e
    rw [hb'] at hc
    simp at hc
  refine stay (grown_setCell _ _ _ _) hb1 ?_
  intro e
  simp at e
  rw [← e, h.lock] at hb
  simp at hb

theorem Inv.pushOf75 {w0 w w1 : World} {k L gv cv g : Nat} {wm rm : Value} {V : Nat → Value} {ps : Nat → List Nat} {o : Obj} (h : Inv w0 w k L (.slice (some ⟨gv, 0, none⟩) L cv) wm rm V ps) (t : Nat)
    (hgrow : (w.alloc o).grownBy w1 (V t).ownBlock) (u : Value) : Holds75 w (w1.setCell ⟨gv, g, none⟩ u) := by
  intro b cur hb
  obtain ⟨_, _, _, c4, _, _⟩ := h.core hgrow (h.rowOf t)
  refine stay (grown_setCell _ _ _ _) (c4 b cur hb) ?_
  intro e
  simp at e
  obtain ⟨c, hc⟩ := ownsRow_block h.of gv rfl
  rw [← e, hc] at hb
  simp at hb

theorem grown_drewN (w : World) (n : Nat) (row : Option Nat) : w.grownBy (w.drewN n) row := ⟨rfl, rfl, rfl, Nat.le_refl _, fun _ _ _ => rfl⟩
theorem grown_drew (w : World) (row : Option Nat) : w.grownBy w.drew row := ⟨rfl, rfl, rfl, Nat.le_refl _, fun _ _ _ => rfl⟩

theorem Inv.lock1 {w0 w w1 : World} {k L : Nat} {ofv wm rm : Value} {V : Nat → Value} {ps : Nat → List Nat} {o : Obj} (h : Inv w0 w k L ofv wm rm V ps) (hgrow : (w.alloc o).grownBy w1 ofv.ownBlock) :
    w1.heap[w0.heap.size]? = some (Obj.cells #[ofv, wm, rm, .slice none 0 0] 66 (0, 0)) :=
  stay hgrow (h.later (World.grownBy_alloc w o none)).lock (fun e => by have := ((h.of.alloc o).lt _ e).1; omega)

theorem cell_alloc_drew {w : World} {b o : Nat} {v : Value} (h : b < w.heap.size) (hf : w.cell? ⟨b, o, none⟩ = some v) (ob : Obj) : (w.alloc ob).drew.cell? ⟨b, o, none⟩ = some v :=
  (World.cell?_of_block (a := ⟨b, o, none⟩) (w := w) (w' := (w.alloc ob).drew) (Below.heap_alloc w ob b h)).trans hf
theorem frozen_alloc_drew {w : World} {b o : Nat} (h : b < w.heap.size) (hf : w.frozen? ⟨b, o, none⟩ = false) (ob : Obj) : (w.alloc ob).drew.frozen? ⟨b, o, none⟩ = false :=
  (World.frozen?_of_block (a := ⟨b, o, none⟩) (w := w) (w' := (w.alloc ob).drew) (Below.heap_alloc w ob b h)).trans hf

/-- Cells of the table and of a hold. -/
theorem Inv.cells {w0 w : World} {k L : Nat} {ofv wm rm : Value} {V : Nat → Value} {ps : Nat → List Nat} (h : Inv w0 w k L ofv wm rm V ps) :
    w.cell? ⟨w0.heap.size, 0, none⟩ = some ofv ∧ w.cell? ⟨w0.heap.size, 1, none⟩ = some wm ∧ w.cell? ⟨w0.heap.size, 2, none⟩ = some rm ∧ w.cell? ⟨w0.heap.size, 3, none⟩ = some (.slice none 0 0) ∧ ∀ o, w.frozen? ⟨w0.heap.size, o, none⟩ = false := by
  refine ⟨?_, ?_, ?_, ?_, fun o => ?_⟩ <;> simp [World.cell?, World.frozen?, h.lock]
theorem hold_cell {w : World} {p : Nat} {cur : Array Value} (h : w.heap[p]? = some (Obj.cells cur 75 (0, 0))) (i : Nat) : w.cell? ⟨p, i, none⟩ = cur[i]? := by simp [World.cell?, h]
theorem Inv.ofCell {w0 w : World} {k L gv cv g : Nat} {wm rm : Value} {V : Nat → Value} {ps : Nat → List Nat} (h : Inv w0 w k L (.slice (some ⟨gv, 0, none⟩) L cv) wm rm V ps) (hg : g < L) : w.cell? ⟨gv, g, none⟩ = some (V g) := by
  rw [h.of.cellAt g (by omega)]
  simp [hg]

theorem Inv.bygCell {w0 w : World} {k L : Nat} {ofv wm rm : Value} {V : Nat → Value} {ps : Nat → List Nat} (h : Inv w0 w k L ofv wm rm V ps) {g : Nat} (hg : g < 5) :
    w.cell? ⟨w0.heap.size + 1, g, none⟩ = some (V (5 + g)) ∧ w.frozen? ⟨w0.heap.size + 1, g, none⟩ = false := by
  obtain rfl | rfl | rfl | rfl | rfl : g = 0 ∨ g = 1 ∨ g = 2 ∨ g = 3 ∨ g = 4 := by omega
  all_goals simp [World.cell?, World.frozen?, h.byg]

/-- What a row of pointers holds. -/
theorem row_cells {w : World} {base n cp : Nat} {ao : Option Addr} {qs : List Nat} (h : w.ownsRow base 67 1 (.slice ao n cp) n (qs.map ptr)) (hn : 0 < n) :
    ∃ g, ao = some ⟨g, 0, none⟩ ∧ ∀ j, j < n → w.cell? ⟨g, j, none⟩ = some (.pointer (some ⟨qs.getD j 0, 0, none⟩)) := by
  obtain ⟨g, c, hv, _⟩ := ownsRow_some h hn
  simp only [Value.slice.injEq] at hv
  obtain ⟨rfl, _, rfl⟩ := hv
  have hlen : qs.length = n := by simpa using h.1
  refine ⟨g, rfl, fun j hj => ?_⟩
  rw [h.cellAt j (by omega), List.getElem?_map, List.getElem?_eq_getElem (by omega), List.getD_eq_getElem?_getD, List.getElem?_eq_getElem (by omega)]
  rfl

end Go.Proofs.Ybulkbhzi.TakenParts

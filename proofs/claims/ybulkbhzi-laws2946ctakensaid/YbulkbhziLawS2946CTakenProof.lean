/-
  THE PROOF OF 'Rows.LawS2946CTakenSaid': the frame after the guide's shell; the slice of structs is opened cell by cell.
-/
import Derived.Test.YbulkbhziRows
import Derived.Test.YbulkbhziTakenWalk
import Derived.WalkKit
import Derived.ProofKit
import Derived.OpenShut
import Derived.ChangeOld
import Derived.Below
import Derived.Deep.Slices
import Derived.Deep.Strs
namespace Go.Proofs.Ybulkbhzi.lawS2946CTaken
open Go.ChangeShapes Go.WideShapes Go.ChangeAt Go.RowKit
set_option linter.unusedVariables false

theorem own : ownKnob Yba.prog.godebug = none := by kernel_rfl
theorem laidOut : laidOutB Yba.prog = true := by kernel_rfl
theorem cells81 : Yba.prog.cellsOf 81 = 3 := by kernel_rfl
theorem cells5 : Yba.prog.cellsOf 5 = 1 := by kernel_rfl
theorem cells4 : Yba.prog.cellsOf 4 = 1 := by kernel_rfl

/-- What the walk is told of the slice of structs that came in. -/
def IsOps (W : World) (a : Option Addr) (len cap : Nat) : Prop :=
  len = 0 ∨ ∃ b off, ∃ G O : Nat → Int, ∃ Rd : Nat → Bool, a = some ⟨b, off, none⟩ ∧ len ≤ cap ∧ cap ≤ maxLen ∧ b < W.heap.size ∧
    (∀ i, i < len → W.cell? ⟨b, off + i * 3, none⟩ = some (.int .u8 (G i))) ∧ (∀ i, i < len → W.cell? ⟨b, off + i * 3 + 1, none⟩ = some (.int .u8 (O i))) ∧
    (∀ i, i < len → W.cell? ⟨b, off + i * 3 + 2, none⟩ = some (.bool (Rd i))) ∧ (∀ i, i < len → 0 ≤ G i ∧ G i ≤ 255) ∧ (∀ i, i < len → 0 ≤ O i ∧ O i ≤ 255)

set_option maxRecDepth 100000 in
theorem open_ops {H : Type} {enc : TypeId × Value → H} {W : World} {base fuel : Nat} {held : Bool} {ao : Option Addr} {len cap : Nat} {x : DataW H × List MemPlace}
    (h : DataW.trod enc Yba.prog W base (fun _ => true) held fuel 78 [.slice ao len cap] = some x) : IsOps W ao len cap := by
  rcases Deep.open_slice Yba.underlying78 h with ⟨hcs, _⟩ | ⟨a, l, c, m, n, D, Pl, hcs, _, hl, hm, hmm, _, hx⟩
  · simp at hcs
    exact .inl hcs.2.1
  · simp at hcs hmm
    obtain ⟨rfl, rfl, rfl⟩ := hcs
    subst hmm
    by_cases h0 : len = 0
    · exact .inl h0
    right
    have each : ∀ i, i < len → ∃ q : Int × Int × Bool, W.cell? (a.add (i * 3)) = some (.int .u8 q.1) ∧ W.cell? (a.add (i * 3 + 1)) = some (.int .u8 q.2.1) ∧ W.cell? (a.add (i * 3 + 2)) = some (.bool q.2.2) ∧
        (Lit.int .u8 q.1).wf = true ∧ (Lit.int .u8 q.2.1).wf = true := by
      intro i hi
      obtain ⟨cs', h1, h2⟩ := hx i (by omega)
      rw [cells81] at h1
      obtain ⟨_, hlen, hcell⟩ := World.cells?_some h1
      obtain ⟨y0, y1, y2, k, _, _, g0, g1, g2⟩ := Deep.trod_struct3 Yba.underlying81 h2
      match cs', hlen with
      | [v0, v1, v2], _ =>
        simp [cells5, cells4] at g0 g1 g2
        obtain ⟨z0, e0, _, w0⟩ := DataW.trod_int Yba.underlying5 g0
        obtain ⟨z1, e1, _, w1⟩ := DataW.trod_int Yba.underlying5 g1
        obtain ⟨z2, e2, _⟩ := DataW.trod_bool Yba.underlying4 g2
        simp at e0 e1 e2
        subst e0 e1 e2
        have f0 := hcell 0 (by omega)
        have f1 := hcell 1 (by omega)
        have f2 := hcell 2 (by omega)
        rw [Deep.add_add] at f0 f1 f2
        exact ⟨(z0, z1, z2), by simpa using f0, by simpa using f1, by simpa using f2, w0, w1⟩
    obtain ⟨q, hq⟩ := Deep.choose_lt each
    obtain ⟨b, off, spot⟩ := a
    have hspot : spot = none := by simpa [Addr.add] using World.cell?_spot (hq 0 (by omega)).1
    subst hspot
    have hb : b < W.heap.size := by simpa [Addr.add] using World.block_lt_of_cell? W _ (hq 0 (by omega)).1
    refine ⟨b, off, fun i => (q i).1, fun i => (q i).2.1, fun i => (q i).2.2, rfl, hl, hm, hb, fun i hi => ?_, fun i hi => ?_, fun i hi => ?_, fun i hi => bounds_u8 (hq i hi).2.2.2.1, fun i hi => bounds_u8 (hq i hi).2.2.2.2⟩
    · rw [← add_plain]; exact (hq i hi).1
    · rw [Nat.add_assoc, ← add_plain]; exact (hq i hi).2.1
    · rw [Nat.add_assoc, ← add_plain]; exact (hq i hi).2.2.1

theorem walk (a0 : Option Addr) (len0 cap0 : Nat) (w : World) (w0 : IsOps w a0 len0 cap0) :
    Calls Yba.prog 5 #[.slice a0 len0 cap0] w fun e w' => e = .returned (.bool true) ∧ Below w.heap.size w w' := by
  by_cases hl : 1024 < len0
  · exact walk_long a0 len0 cap0 w hl
  by_cases h0 : len0 = 0
  · subst h0
    exact walk_zero a0 cap0 w
  rcases w0 with h | ⟨b, off, G, O, Rd, rfl, hlc, hcap, hb, c0, c1, c2, hG, hO⟩
  · exact absurd h h0
  exact walk_some b off len0 cap0 w (by omega) hlc hcap G O Rd hb c0 c1 c2 hG hO

set_option maxRecDepth 100000 in
theorem lifted (os : Os) (started : os.Started) (H : Type) (enc : TypeId × Value → H) :
    ReturnsInHanded {} Yba.checked os 5 .any (Rows.lawS2946CTakenSpec.pre6 enc Yba.prog Yba.f5 Rows.lawS2946CTakenRow.domain false) (Rows.lawS2946CTakenSpec.post enc Yba.prog Yba.f5 false true false false) := by
  refine returnsInHanded_of_change (C := Yba.checked) own started (by kernel_rfl) Yba.func5
    (ChangeSpec.witness6 (enc := enc) (C := Yba.checked) false ⟨#[], #[.slice none 0 0], []⟩ 8 (by kernel_rfl) (by kernel_rfl) (by kernel_rfl) (by kernel_rfl)) ?_
  intro W base args ds gs before hval0 hW hcnd _
  have hval : ∀ (j : Nat) t v, Yba.f5.params[j]? = some t → args[j]? = some v → Value.okWide Yba.prog W .any base t v := hval0
  have hW' := hW
  obtain ⟨p, q, hA0, hV, rfl, hfz, hnd⟩ := hW
  have hA : DataW.TrodAll enc Yba.prog W 0 (fun _ => true) true Yba.f5.params.toList args.toList ds p := hA0
  rw [Yba.params5] at hA hval
  obtain ⟨v0, vs0, d0, ds0, p0, q0, hargs, rfl, rfl, h0, r0⟩ := trodAll_cons hA
  obtain ⟨rfl, rfl, rfl⟩ := trodAll_nil r0
  obtain rfl : args = #[v0] := by cases args; simp_all
  obtain ⟨rfl, rfl⟩ := trodVars_none hV
  obtain ⟨a0, len0, cap0, rfl⟩ := okWide_slice Yba.underlying78 (hval 0 78 v0 rfl rfl)
  have k0 := h0
  have lt0 : ∀ x ∈ p0, x.block < W.heap.size := by obtain ⟨m, hm⟩ := k0; exact DataW.trod_lt m _ _ _ hm
  have w0 : IsOps W a0 len0 cap0 := by
    obtain ⟨fuel, hf⟩ := h0
    exact open_ops (by simpa [Value.cells] using hf)
  clear hA0 hval0
  refine (walk a0 len0 cap0 W w0).mono fun e W' ⟨he, bel⟩ => ?_
  subst he
  exact ⟨_, rfl, _, _, _, [], _, [], hW', trodAll_mk1 (shut_bool Yba.underlying4 _), (trodAll_cons_mk (Below.trod laidOut (by kernel_rfl) (of_decide_eq_true (by kernel_rfl)) k0 bel lt0) trodAll_mk0), rfl, bel.frame _, fun h => by cases h⟩

theorem over : Rows.lawS2946CTakenRow.holds Yba.pinned (OpenSpec.ofChange Rows.lawS2946CTakenSpec) :=
  OpenClaim.holds_of_wide 5 Yba.f5 rfl rfl rfl rfl rfl rfl rfl ⟨rfl, rfl, rfl, rfl, rfl⟩ rfl rfl rfl rfl rfl (by kernel_rfl) Yba.func5 (by kernel_rfl)
    (of_decide_eq_true (by kernel_rfl)) (by unfold Func.isWrapper; first | (rw [if_pos (by decide +kernel)]; kernel_rfl) | (rw [if_neg (by decide +kernel)]; exact ⟨rfl, rfl⟩))
    (fun os started H enc _ => lifted os started H enc)

/-- THE STATEMENT -/
theorem proved : Rows.LawS2946CTakenSaid := over
#print axioms proved
end Go.Proofs.Ybulkbhzi.lawS2946CTaken

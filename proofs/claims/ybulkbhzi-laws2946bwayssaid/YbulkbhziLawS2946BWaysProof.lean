/-
  THE PROOF OF 'Rows.LawS2946BWaysSaid': the frame after the guide's shell; the map that came in is opened by 'open_map', its look-up is one value in every later world ('map_look').
-/
import Derived.Test.YbulkbhziRows
import Derived.Test.YbulkbhziWaysWalk
import Derived.WalkKit
import Derived.ProofKit
import Derived.OpenShut
import Derived.ChangeOld
import Derived.Below
import Derived.Maps.Keyed
namespace Go.Proofs.Ybulkbhzi.lawS2946BWays
open Go.ChangeShapes Go.WideShapes Go.ChangeAt Go.RowKit
open Go.WideMaps Go.WideElems
set_option linter.unusedVariables false

theorem own : ownKnob Yba.prog.godebug = none := by kernel_rfl
theorem laidOut : laidOutB Yba.prog = true := by kernel_rfl
theorem zero29 (w : World) : (zeroValue 29).run Yba.prog w = .ok (.slice none 0 0) w := by kernel_rfl
theorem cells3 : Yba.prog.cellsOf 3 = 1 := by kernel_rfl

theorem one_of {es : List MapEntry} (hn : es.Pairwise (fun x y => x.key ≠ y.key)) {a b : MapEntry} (ha : a ∈ es) (hb : b ∈ es) (h : a.key = b.key) : a = b := by
  induction es with
  | nil => simp at ha
  | cons x l ih =>
    rw [List.pairwise_cons] at hn
    rcases List.mem_cons.1 ha with rfl | ha1
    · rcases List.mem_cons.1 hb with rfl | hb
      · rfl
      · exact absurd h (hn.1 b hb)
    · rcases List.mem_cons.1 hb with rfl | hb
      · exact absurd h.symm (hn.1 a ha1)
      · exact ih hn.2 ha1 hb

/-- 'm[to]' is one value in every later world: nil, or an entry's element, which was read as data. -/
theorem map_look {H : Type} {enc : TypeId × Value → H} {W : World} {n bm : Nat} {es : Array MapEntry} {clock : Nat} (hb : W.heap[bm]? = some (.map es clock))
    (F : Fit Yba.prog 3 (elemAt enc Yba.prog W 0 (fun _ => true) true n 29) es clock) (to : Int) (wt : (Lit.int .i64 to).wf = true) :
    ∃ u, (∀ w', Below W.heap.size W w' → (Instr.lookup 22 (.map (some bm)) (.int .i64 to) false).run Yba.prog w' = .ok u w') ∧
      (u = .slice none 0 0 ∨ ∃ y, elemAt enc Yba.prog W 0 (fun _ => true) true n 29 u = some y) := by
  have hkey := Maps.keyOf_int_mk Yba.underlying3 wt
  have K := Maps.int_keyed Yba.underlying3
  have hlt : bm < W.heap.size := lt_of_block hb
  by_cases hex : ∃ e0, e0 ∈ es.toList ∧ e0.key = .int .i64 to
  · obtain ⟨e0, hm0, hk0⟩ := hex
    refine ⟨e0.val, fun w' hw' => ?_, ?_⟩
    · rcases Maps.fit_look false K Yba.underlying22 (zero29 w') ((hw'.block bm hlt).trans hb) F hkey with ⟨_, hno, _⟩ | ⟨e1, y, hm1, hk1, hrun, _⟩
      · exact absurd hk0 (hno e0 hm0)
      · have hn : es.toList.Pairwise (fun x y => x.key ≠ y.key) := ((MapKept.stamped_iff es clock).1 F.stamped).2.2
        have : e1 = e0 := one_of hn hm1 hm0 (hk1.trans hk0.symm)
        rw [this] at hrun
        simpa using hrun
    · right
      obtain ⟨y0, hy0⟩ := F.reads e0 hm0
      obtain ⟨zv, hzv, _⟩   := Go.WideElems.rd_val hy0
      exact ⟨zv, hzv⟩
  · refine ⟨.slice none 0 0, fun w' hw' => ?_, .inl rfl⟩
    rcases Maps.fit_look false K Yba.underlying22 (zero29 w') ((hw'.block bm hlt).trans hb) F hkey with ⟨hrun, _⟩ | ⟨e1, y, hm1, hk1, _⟩
    · simpa using hrun
    · exact absurd ⟨e1, hm1, hk1⟩ hex

/-- What the walk wants of an element that was read as data. -/
theorem elem_ints {H : Type} {enc : TypeId × Value → H} {W : World} {n : Nat} {u : Value} {y : DataW H × List MemPlace} (h : elemAt enc Yba.prog W 0 (fun _ => true) true n 29 u = some y) :
    ∃ ao l c, ∃ Z : List Int, u = .slice ao l c ∧ l ≤ c ∧ c ≤ maxLen ∧ (0 < l → ∃ b off, ao = some ⟨b, off, none⟩ ∧ ∀ j, j < l → W.cell? ⟨b, off + j, none⟩ = some (.int .i64 (Z.getD j 0))) := by
  unfold elemAt at h
  split at h
  · rename_i hf
    rcases open_ints Yba.underlying29 Yba.underlying3 cells3 h with ⟨hcs, _⟩ | ⟨x, l, c, zs, hcs, _, hl, hm, hz, _, hcell, _⟩
    · refine ⟨none, 0, 0, [], ?_, Nat.le_refl _, by simp [maxLen], by simp⟩
      cases u <;> simp [Value.formed, Yba.underlying29, Value.cells] at hf hcs
      obtain ⟨rfl, rfl, rfl⟩ := hcs
      rfl
    · refine ⟨some x, l, c, zs, ?_, hl, hm, fun h0 => ?_⟩
      · cases u <;> simp [Value.formed, Yba.underlying29, Value.cells] at hf hcs
        obtain ⟨rfl, rfl, rfl⟩ := hcs
        rfl
      · simp at hz
        obtain ⟨b, off, rfl, hc⟩ := ints_at hcell (by omega)
        exact ⟨b, off, rfl, fun j hj => hc j (by omega)⟩
  · cases h


/-- THE WALK, whatever the map holds at the key. -/
theorem walk (sa ra sb rb to : Int) (mv u : Value) (W : World) (h1 : 0 ≤ sa ∧ sa ≤ 255) (h2 : 0 ≤ sb ∧ sb ≤ 255)
    (hl : ∀ w', Below W.heap.size W w' → (Instr.lookup 22 mv (.int .i64 to) false).run Yba.prog w' = .ok u w')
    (hu : ∃ ao l c, ∃ Z : List Int, u = .slice ao l c ∧ l ≤ c ∧ c ≤ maxLen ∧ (0 < l → ∃ b off, ao = some ⟨b, off, none⟩ ∧ ∀ j, j < l → W.cell? ⟨b, off + j, none⟩ = some (.int .i64 (Z.getD j 0)))) :
    Calls Yba.prog 3 #[.int .u8 sa, .int .u8 ra, .int .u8 sb, .int .u8 rb, .int .i64 to, mv] W fun e w' => e = .returned (.bool true) ∧ Below W.heap.size W w' := by
  by_cases hbl : (kd sa ra == 14 || kd sb rb == 14) = true
  · exact walk_blocks sa ra sb rb to mv W h1 h2 hbl
  · rw [Bool.not_eq_true, Bool.or_eq_false_iff] at hbl
    obtain ⟨ao, l, c, Z, rfl, hlc, hcm, hc⟩ := hu
    exact walk_looks sa ra sb rb to mv ao l c Z W h1 h2 hbl.1 hbl.2 hl hlc hcm hc

set_option maxRecDepth 100000 in
theorem lifted (os : Os) (started : os.Started) (H : Type) (enc : TypeId × Value → H) :
    ReturnsInHanded {} Yba.checked os 3 .any (Rows.lawS2946BWaysSpec.pre6 enc Yba.prog Yba.f3 Rows.lawS2946BWaysRow.domain false) (Rows.lawS2946BWaysSpec.post enc Yba.prog Yba.f3 false true false false) := by
  refine returnsInHanded_of_change (C := Yba.checked) own started (by kernel_rfl) Yba.func3
    (ChangeSpec.witness6 (enc := enc) (C := Yba.checked) false ⟨#[], #[.int .u8 0, .int .u8 0, .int .u8 0, .int .u8 0, .int .i64 0, .map none], []⟩ 8 (by kernel_rfl) (by kernel_rfl) (by kernel_rfl) (by kernel_rfl)) ?_
  intro W base args ds gs before hval0 hW hcnd _
  have hval : ∀ (j : Nat) t v, Yba.f3.params[j]? = some t → args[j]? = some v → Value.okWide Yba.prog W .any base t v := hval0
  have hW' := hW
  obtain ⟨p, q, hA0, hV, rfl, hfz, hnd⟩ := hW
  have hA : DataW.TrodAll enc Yba.prog W 0 (fun _ => true) true Yba.f3.params.toList args.toList ds p := hA0
  rw [Yba.params3] at hA hval
  obtain ⟨v0, vs0, d0, ds0, p0, q0, hargs, rfl, rfl, h0, r0⟩ := trodAll_cons hA
  obtain ⟨v1, vs1, d1, ds1, p1, q1, rfl, rfl, rfl, h1, r1⟩ := trodAll_cons r0
  obtain ⟨v2, vs2, d2, ds2, p2, q2, rfl, rfl, rfl, h2, r2⟩ := trodAll_cons r1
  obtain ⟨v3, vs3, d3, ds3, p3, q3, rfl, rfl, rfl, h3, r3⟩ := trodAll_cons r2
  obtain ⟨v4, vs4, d4, ds4, p4, q4, rfl, rfl, rfl, h4, r4⟩ := trodAll_cons r3
  obtain ⟨v5, vs5, d5, ds5, p5, q5, rfl, rfl, rfl, h5, r5⟩ := trodAll_cons r4
  obtain ⟨rfl, rfl, rfl⟩ := trodAll_nil r5
  obtain rfl : args = #[v0, v1, v2, v3, v4, v5] := by cases args; simp_all
  obtain ⟨rfl, rfl⟩ := trodVars_none hV
  obtain ⟨a0, rfl, rfl, rfl, w0⟩ := open_int Yba.underlying5 (hval 0 5 v0 rfl rfl) h0
  obtain ⟨a1, rfl, rfl, rfl, w1⟩ := open_int Yba.underlying5 (hval 1 5 v1 rfl rfl) h1
  obtain ⟨a2, rfl, rfl, rfl, w2⟩ := open_int Yba.underlying5 (hval 2 5 v2 rfl rfl) h2
  obtain ⟨a3, rfl, rfl, rfl, w3⟩ := open_int Yba.underlying5 (hval 3 5 v3 rfl rfl) h3
  obtain ⟨a4, rfl, rfl, rfl, w4⟩ := open_int Yba.underlying3 (hval 4 3 v4 rfl rfl) h4
  obtain ⟨m5, rfl⟩ := okWide_map Yba.underlying22 (hval 5 22 v5 rfl rfl)
  have k5 := h5
  have lt5 : ∀ x ∈ p5, x.block < W.heap.size := by obtain ⟨m, hm⟩ := k5; exact DataW.trod_lt m _ _ _ hm
  obtain ⟨u, hl, hu⟩ : ∃ u, (∀ w', Below W.heap.size W w' → (Instr.lookup 22 (.map m5) (.int .i64 a4) false).run Yba.prog w' = .ok u w') ∧
      (∃ ao l c, ∃ Z : List Int, u = .slice ao l c ∧ l ≤ c ∧ c ≤ maxLen ∧ (0 < l → ∃ b off, ao = some ⟨b, off, none⟩ ∧ ∀ j, j < l → W.cell? ⟨b, off + j, none⟩ = some (.int .i64 (Z.getD j 0)))) := by
    obtain ⟨fuel, hf⟩ := h5
    rcases Go.WideElems.open_map Yba.underlying22 hf with ⟨hcs, _⟩ | ⟨bm, es, clock, n, rfl, hcs, hb, _, F, _⟩
    · simp [Value.cells] at hcs
      subst hcs
      refine ⟨.slice none 0 0, fun w' _ => ?_, ⟨none, 0, 0, [], rfl, Nat.le_refl _, by simp [maxLen], by simp⟩⟩
      simpa using Maps.look_nil (P := Yba.prog) (w := w') false (Maps.int_keyed Yba.underlying3) Yba.underlying22 (zero29 w') (Maps.keyOf_int_mk Yba.underlying3 w4)
    · simp [Value.cells] at hcs
      subst hcs
      obtain ⟨u, hl, hu⟩ := map_look hb F a4 w4
      refine ⟨u, hl, ?_⟩
      rcases hu with rfl | ⟨y, hy⟩
      · exact ⟨none, 0, 0, [], rfl, Nat.le_refl _, by simp [maxLen], by simp⟩
      · exact elem_ints hy
  clear hA0 hval0
  refine (walk a0 a1 a2 a3 a4 (.map m5) u W (bounds_u8 w0) (bounds_u8 w2) hl hu).mono fun e W' ⟨he, bel⟩ => ?_
  subst he
  exact ⟨_, rfl, _, _, _, [], _, [], hW', trodAll_mk1 (shut_bool Yba.underlying4 _), (trodAll_cons_mk (shut_int Yba.underlying5 w0) (trodAll_cons_mk (shut_int Yba.underlying5 w1) (trodAll_cons_mk (shut_int Yba.underlying5 w2) (trodAll_cons_mk (shut_int Yba.underlying5 w3) (trodAll_cons_mk (shut_int Yba.underlying3 w4) (trodAll_cons_mk (Below.trod laidOut (by kernel_rfl) (of_decide_eq_true (by kernel_rfl)) k5 bel lt5) trodAll_mk0)))))), rfl, bel.frame _, fun h => by cases h⟩

theorem over : Rows.lawS2946BWaysRow.holds Yba.pinned (OpenSpec.ofChange Rows.lawS2946BWaysSpec) :=
  OpenClaim.holds_of_wide 3 Yba.f3 rfl rfl rfl rfl rfl rfl rfl ⟨rfl, rfl, rfl, rfl, rfl⟩ rfl rfl rfl rfl rfl (by kernel_rfl) Yba.func3 (by kernel_rfl)
    (of_decide_eq_true (by kernel_rfl)) (by unfold Func.isWrapper; first | (rw [if_pos (by decide +kernel)]; kernel_rfl) | (rw [if_neg (by decide +kernel)]; exact ⟨rfl, rfl⟩))
    (fun os started H enc _ => lifted os started H enc)

/-- THE STATEMENT -/
theorem proved : Rows.LawS2946BWaysSaid := over
#print axioms proved
end Go.Proofs.Ybulkbhzi.lawS2946BWays

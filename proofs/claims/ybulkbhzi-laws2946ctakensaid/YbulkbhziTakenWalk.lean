/-
  THE WALK OF 'LawS2946CTaken'.
-/
import Derived.Test.YbulkbhziTakeWalk
import Derived.Test.YbulkbhziHeldWalk
namespace Go.Proofs.Ybulkbhzi.lawS2946CTaken
open Go.ChangeShapes Go.WideShapes Go.ChangeAt Go.RowKit Go.Proofs.Ybulkbhzi.HeldParts Go.Proofs.Ybulkbhzi.TakenParts
set_option linter.unusedVariables false

theorem info75 : (Yba.prog.info? 75).isSome = true := by kernel_rfl

theorem hold_any (B : Nat) (c0 c1 c2 c3 c4 c5 c6 c7 : Value) (g : Int) (w : World) (hB : w.cell? ⟨B, 3, none⟩ = some (.slice none 0 0)) (hb : B < w.heap.size) :
    Calls Yba.prog 9 #[.pointer (some ⟨B, 0, none⟩), .agg #[c0, c1, c2, c3, c4, c5, c6, c7], .int .i64 g] w fun e w' => ∃ p, e = .returned (.pointer (some ⟨p, 0, none⟩)) ∧
      w'.heap[p]? = some (Obj.cells #[c0, c1, c2, c3, c4, c5, c6, c7, .int .i64 g, .int .i64 0, .bool false, .int .i64 0, .bool false, .int .i64 0, .int .i64 0, .int .i64 0, .int .i64 0] 75 (0, 0)) ∧ w.grownBy w' none := by
  go_enter Yba.func9, Yba.ntmps9
  go_wp2
  go_ret
  refine ⟨w.heap.size + 1, rfl, ?_, ?_⟩
  · have := heap_alloc_new (w.alloc (.cells #[c0, c1, c2, c3, c4, c5, c6, c7] 71)) (.cells #[c0, c1, c2, c3, c4, c5, c6, c7, .int .i64 g, .int .i64 0, .bool false, .int .i64 0, .bool false, .int .i64 0, .int .i64 0, .int .i64 0, .int .i64 0] 75)
    simpa using this
  · have g1 := World.grownBy_alloc w (.cells #[c0, c1, c2, c3, c4, c5, c6, c7] 71) none
    have g2 := World.grownBy_alloc (w.alloc (.cells #[c0, c1, c2, c3, c4, c5, c6, c7] 71)) (.cells #[c0, c1, c2, c3, c4, c5, c6, c7, .int .i64 g, .int .i64 0, .bool false, .int .i64 0, .bool false, .int .i64 0, .int .i64 0, .int .i64 0, .int .i64 0] 75) none
    exact ⟨rfl, rfl, rfl, Nat.le_trans g1.size g2.size, fun x hx hr => (g2.block x (Nat.lt_of_lt_of_le hx g1.size) hr).trans (g1.block x hx hr)⟩

theorem same_zero (ao bo : Option Addr) (ca cb : Nat) (w : World) : Calls Yba.prog 11 #[.slice ao 0 ca, .slice bo 0 cb] w fun e w' => e = .returned (.bool true) ∧ ∃ q, w' = w.drewN q := by
  go_enter Yba.func11, Yba.ntmps11
  go_wp2
  refine wp_loop_rounds 1 ?_
  rw [rounds_succ]
  go_wp2
  go_ret
  exact ⟨rfl, 0, rfl⟩

set_option maxRecDepth 100000 in
set_option maxHeartbeats 1000000 in
theorem same_some (n ca cb ga gb : Nat) (qs : List Nat) (w : World) (hca : n ≤ ca) (hca2 : ca ≤ 2 ^ 63 - 1) (hcb : n ≤ cb) (hcb2 : cb ≤ 2 ^ 63 - 1)
    (ha : ∀ j, j < n → w.cell? ⟨ga, j, none⟩ = some (.pointer (some ⟨qs.getD j 0, 0, none⟩))) (hb : ∀ j, j < n → w.cell? ⟨gb, j, none⟩ = some (.pointer (some ⟨qs.getD j 0, 0, none⟩))) :
    Calls Yba.prog 11 #[.slice (some ⟨ga, 0, none⟩) n ca, .slice (some ⟨gb, 0, none⟩) n cb] w fun e w' => e = .returned (.bool true) ∧ ∃ q, w' = w.drewN q := by
  have HA := hide ha
  have HB := hide hb
  clear ha hb
  obtain ⟨i75, hi75⟩ := Option.isSome_iff_exists.1 info75
  have qp : ∀ (w : World) (a : Addr), (binOp .neq 67 (.pointer (some a)) (.pointer (some a))).run Yba.prog w = .ok (.bool false) w := fun w a => Lib.run_neq_ptr_same w a Yba.underlying67 hi75
  clear hi75
  go_enter Yba.func11, Yba.ntmps11
  go_wp2
  go_loopw [5] (fun j wx => ∃ m q : Nat, m ≤ n ∧ j = .int .i64 m ∧ wx = w.drewN q) (fun j _ => n - (intOf j).toNat)
  case atStart => exact ⟨0, 0, Nat.zero_le _, rfl, rfl⟩
  case round =>
    obtain ⟨m, q, hm, rfl, rfl⟩ := hrel
    by_cases hml : m < n
    · have hmi : (m : Int) < (n : Int) := by omega
      have c1 := HA.out m hml
      have c2 := HB.out m hml
      generalize qs.getD m 0 = p at c1 c2
      go_wp2_with fail
      go_quiet (fail)
      go_wp2
      go_roundw
      case rel => exact ⟨m + 1, q + nq, by omega, by go_num, rfl⟩
      case measure => simp [intOf]; omega
    · go_wp2
      go_ret
      exact ⟨rfl, q, rfl⟩

/-- The two books of a goroutine agree. -/
def Eqs (ps : Nat → List Nat) : Prop := ∀ g, g < 5 → ps g = ps (5 + g)

theorem Eqs.step {ps ps' : Nat → List Nat} {g p : Nat} (h : Eqs ps) (hg : g < 5) (h1 : ps' g = ps g ++ [p]) (h2 : ∀ τ, τ < 10 → τ ≠ g → ps' τ = ps τ) : Eqs (upd ps' (5 + g) (ps' (5 + g) ++ [p])) := by
  intro j hj
  by_cases e : j = g
  · subst e
    rw [upd_same, upd_other _ _ (by omega), h1, h2 (5 + j) (by omega) (by omega), h j hj]
  · rw [upd_other _ _ (by omega), upd_other _ _ (by omega), h2 j (by omega) e, h2 (5 + j) (by omega) (by omega), h j hj]

set_option maxRecDepth 100000 in
set_option maxHeartbeats 8000000 in
theorem walk_some (b off len0 cap0 : Nat) (w : World) (hlen : len0 ≤ 1024) (hlc : len0 ≤ cap0) (hcap : cap0 ≤ maxLen) (G O : Nat → Int) (Rd : Nat → Bool) (hb : b < w.heap.size)
    (hc0 : ∀ i, i < len0 → w.cell? ⟨b, off + i * 3, none⟩ = some (.int .u8 (G i)))
    (hc1 : ∀ i, i < len0 → w.cell? ⟨b, off + i * 3 + 1, none⟩ = some (.int .u8 (O i)))
    (hc2 : ∀ i, i < len0 → w.cell? ⟨b, off + i * 3 + 2, none⟩ = some (.bool (Rd i)))
    (hG : ∀ i, i < len0 → 0 ≤ G i ∧ G i ≤ 255) (hO : ∀ i, i < len0 → 0 ≤ O i ∧ O i ≤ 255) :
    Calls Yba.prog 5 #[.slice (some ⟨b, off, none⟩) len0 cap0] w fun e w' => e = .returned (.bool true) ∧ Below w.heap.size w w' := by
  unfold maxLen at hcap
  obtain ⟨i67, hi67, hz67, hs67, hb67⟩ := info_parts info67
  have hd : decide (1024 < (len0 : Int)) = false := by simp; omega
  have HC0 := hide hc0
  have HC1 := hide hc1
  have HC2 := hide hc2
  have HG := hide hG
  have HO := hide hO
  have qn : ∀ (w : World) (a : Option Addr) (n c n' c' : Nat), (binOp .neq 64 (.slice a n c) (.slice none n' c')).run Yba.prog w = .ok (.bool (!a.isNone)) w := fun w a n c n' c' => run_neq_slice_nil_any w _ _ a n c n' c' Yba.underlying64
  clear hc0 hc1 hc2 hG hO
  go_enter Yba.func5, Yba.ntmps5
  go_wp2
  go_loopw [5] (fun i wr => ∃ (k L : Nat) (ofv wm rm : Value) (V : Nat → Value) (ps : Nat → List Nat), k ≤ len0 ∧ i = .int .i64 k ∧ Inv w wr (3 * k) L ofv wm rm V ps ∧ Eqs ps) (fun i _ => len0 - (intOf i).toNat)
  case atStart => exact ⟨0, 0, _, _, _, _, _, Nat.zero_le _, rfl, Inv.start w, fun _ _ => rfl⟩
  case round =>
    obtain ⟨k, L, ofv, wm, rm, V, ps, hk, rfl, hI, hE⟩ := hrel
    have HI := hide hI
    have HE := hide hE
    clear hI hE
    by_cases hkl : k < len0
    · have bel := HI.out.below
      have d0 : wr.cell? ⟨b, off + k * 3, none⟩ = some (.int .u8 (G k)) := (bel.cell (by exact hb)).trans (HC0.out k hkl)
      have d1 : wr.cell? ⟨b, off + k * 3 + 1, none⟩ = some (.int .u8 (O k)) := (bel.cell (by exact hb)).trans (HC1.out k hkl)
      have d2 : wr.cell? ⟨b, off + k * 3 + 2, none⟩ = some (.bool (Rd k)) := (bel.cell (by exact hb)).trans (HC2.out k hkl)
      clear bel
      have hg1 := HG.out k hkl
      have ho1 := HO.out k hkl
      obtain ⟨g, hg⟩ : ∃ g : Nat, G k % 5 = (g : Int) := ⟨(G k % 5).toNat, by omega⟩
      obtain ⟨o, ho⟩ : ∃ o : Nat, O k % 4 = (o : Int) := ⟨(O k % 4).toNat, by omega⟩
      have hg5 : g < 5 := by omega
      have ho4 : o < 4 := by omega
      obtain ⟨q0, q1, q2, q3, q4⟩ := HI.out.cells
      have hzs := HI.out.size
      have lB : w.heap.size < wr.heap.size := by omega
      clear q0 q1 q2 q4
      cases hrd : Rd k
      all_goals
        rw [hrd] at d2
        go_wp2_with (go_at_call 9; refine (hold_any w.heap.size _ _ _ _ _ _ _ _ _ _ ?_ ?_).mono ?_)
        · go_simp
        · go_simp
        rintro e wh ⟨p, rfl, hp, hgr⟩
        have hIh := (HI.out.later (World.grownBy_alloc wr _ none)).later hgr
        go_wp2_with fail
        refine (take_any w wh (3 * k) L g p o _ _ ofv wm rm V ps hIh (by omega) hg5 ho4 hp rfl rfl rfl).mono ?_
        rintro e w1 ⟨v, L', ofv', wm', rm', V', ps', rfl, hJ, hj1, hj2⟩
        clear hp hgr hIh d0 d1 d2 q3
        obtain ⟨cur, hpc, hc8⟩ := hJ.holds g p (by omega) (by rw [hj1]; simp)
        rw [Nat.mod_eq_of_lt hg5] at hc8
        obtain ⟨qb, qf⟩ := hJ.bygCell hg5
        obtain ⟨ab, cb, hvb, hnb, hcb⟩ := ownsRow_form (hJ.rows.own (5 + g))
        have hfew := hJ.rows.few (5 + g)
        rw [hvb] at qb
        have hjs := hJ.size
        have hgi : (g : Int) < 5 := by omega
        have HJ := hide hJ
        have HJ1 := hide hj1
        have HJ2 := hide hj2
        have HPC := hide hpc
        have HC8 := hide hc8
        have HVB := hide hvb
        have hown0 : w1.ownsRow (w.heap.size + 2) 67 1 (.slice ab (ps' (5 + g)).length cb) (ps' (5 + g)).length ((ps' (5 + g)).map ptr) := by
          have := hJ.rows.own (5 + g)
          rwa [hvb] at this
        have HO0 := hide hown0
        clear hJ hj1 hj2 hpc hc8 hvb hown0 HI
        go_wp2_with (at_builtin; refine wpList_append_lies _ rfl _ _ 64 rfl (w.heap.size + 2) 67 i67 (.pointer none) 1 8 Yba.underlying64 hi67 hz67 hs67 hb67 rfl (by omega) (.slice ab (ps' (5 + g)).length cb) (ps' (5 + g)).length _ rfl (HO0.out.alloc _) ⟨w1.heap.size, 0, none⟩ 1 1 [ptr p] rfl rfl (by exact cell_one_new w1 (ptr p) 67) (by simp [Value.oneCell', ptr]) (by omega) (by unfold maxLen; omega) (by omega) (by simp; omega) (w1.heap.size + 1) (by simp) ?_)
        intro gn cap w2 hown1 hgrow hat hlt
        have hgrow' : (w1.alloc (Obj.cells #[Value.pointer (some ⟨p, 0, none⟩)] 67)).grownBy w2 (V' (5 + g)).ownBlock := by rw [HVB.out]; exact hgrow
        have hR := HJ.out.pushByg hg5 HPC.out HC8.out hown1 hgrow' (by rw [HVB.out]; exact hat)
        have hne1 : some (w.heap.size + 1) ≠ (Value.slice ab (ps' (5 + g)).length cb).ownBlock := fun e => by have := (HO0.out.lt _ e.symm).1; omega
        have qb2 : w2.cell? ⟨w.heap.size + 1, g, none⟩ = some (.slice ab (ps' (5 + g)).length cb) := (hgrow.cell_far ⟨w.heap.size + 1, g, none⟩ (by simp; omega) hne1).trans (cell_alloc_drew (by omega) qb _)
        have qf2 : w2.frozen? ⟨w.heap.size + 1, g, none⟩ = false := (hgrow.frozen_far ⟨w.heap.size + 1, g, none⟩ (by simp; omega) hne1).trans (frozen_alloc_drew (by omega) qf _)
        have HR := hide hR
        have HE2 := hide (HE.out.step hg5 HJ1.out HJ2.out)
        clear hR hgrow hgrow' hown1 hat hne1 qb qf
        go_wp2
        go_roundw
        case rel => exact ⟨k + 1, L', _, _, _, _, _, by omega, by go_num, HR.out, HE2.out⟩
        case measure => simp [intOf]; omega
    · obtain ⟨wf, hwf⟩ : ∃ wf, wf = wr := ⟨_, rfl⟩
      subst hwf
      obtain ⟨av, cv, rfl, hav, hcv⟩ := ownsRow_form HI.out.of
      obtain ⟨q0, q1, q2, q3, q4⟩ := HI.out.cells
      clear q1 q2 q3 q4
      unfold maxLen at hcv
      have hL5 := HI.out.five
      go_wp2
      go_loopw [10] (fun s10 wx => ∃ g q : Nat, g ≤ 7 ∧ s10 = .int .i64 g ∧ wx = wf.drewN q) (fun s10 _ => 7 - (intOf s10).toNat)
      case atStart => exact ⟨0, 0, Nat.zero_le _, rfl, rfl⟩
      case round =>
        obtain ⟨g, q, hg7, rfl, rfl⟩ := hrel
        by_cases hlt7 : g < 7
        · by_cases hgL : g < L
          · obtain ⟨gv, cv', hgv, _⟩ := ownsRow_some HI.out.of (by omega)
            simp only [Value.slice.injEq] at hgv
            obtain ⟨rfl, _, rfl⟩ := hgv
            have qg := HI.out.ofCell hgL
            obtain ⟨ar, cr, hvr, hnr, hcr⟩ := ownsRow_form (HI.out.rows.own g)
            obtain ⟨qb, _⟩ := HI.out.bygCell (g := g) (by omega)
            obtain ⟨aw, cw, hvw, hnw, hcw⟩ := ownsRow_form (HI.out.rows.own (5 + g))
            have hor := HI.out.rows.own g
            have how := HI.out.rows.own (5 + g)
            rw [hvr] at qg hor
            rw [hvw] at qb how
            rw [← HE.out g (by omega)] at qb how hnw
            generalize hps : ps g = qs at *
            unfold maxLen at hcr hcw
            have hfew : qs.length ≤ 3 * k := by rw [← hps]; exact HI.out.rows.few g
            have HOLD : Hid (∀ p, p ∈ qs → wf.cell? ⟨p, 8, none⟩ = some (.int .i64 (g : Int))) := by
              intro p hp
              obtain ⟨cur, h1, h2⟩ := HI.out.holds g p (by omega) (by rw [hps]; exact hp)
              rw [Nat.mod_eq_of_lt (by omega)] at h2
              exact (hold_cell h1 8).trans h2
            have hdg : decide ((L : Int) ≤ (g : Int)) = false := by simp; omega
            have hg5 : (g : Int) < 5 := by omega
            have HOR := hide hor
            have HOW := hide how
            clear hvr hvw hor how hps
            by_cases hn0 : qs.length = 0
            · rw [hn0] at qg qb
              go_wp2_with (first | (go_at_call 8; refine (lawS2946CHeld.held_in _ L gv cv g _ _ (by exact q0) (by omega) (by omega) hgL (by exact qg)).mono ?_; rintro e w' ⟨rfl, rfl⟩) | (go_at_call 11; refine (same_zero _ _ _ _ _).mono ?_; rintro e w' ⟨rfl, q2, rfl⟩))
              refine wp_loop_rounds 1 ?_
              rw [rounds_succ]
              go_wp2
              go_roundw
              case rel => exact ⟨g + 1, q + q2, by omega, by go_num, rfl⟩
              case measure => simp [intOf]; omega
            · obtain ⟨ga, rfl, ca⟩ := row_cells HOR.out (by omega)
              obtain ⟨gb, rfl, cb⟩ := row_cells HOW.out (by omega)
              have CA := hide ca
              have CB := hide cb
              clear ca cb
              go_wp2_with (first | (go_at_call 8; refine (lawS2946CHeld.held_in _ L gv cv g _ _ (by exact q0) (by omega) (by omega) hgL (by exact qg)).mono ?_; rintro e w' ⟨rfl, rfl⟩) | (go_at_call 11; refine (same_some qs.length _ _ ga gb qs _ (by omega) (by omega) (by omega) (by omega) (by exact CA.out) (by exact CB.out)).mono ?_; rintro e w' ⟨rfl, q2, rfl⟩))
              go_loopw [13] (fun s13 wx => ∃ m q3 : Nat, m ≤ qs.length ∧ s13 = .int .i64 m ∧ wx = wf.drewN q3) (fun s13 _ => qs.length - (intOf s13).toNat)
              case atStart => exact ⟨0, q + q2, Nat.zero_le _, rfl, rfl⟩
              case round =>
                obtain ⟨m, q3, hm, rfl, rfl⟩ := hrel
                by_cases hml : m < qs.length
                · have hmi : (m : Int) < (qs.length : Int) := by omega
                  have c1 := CA.out m hml
                  have c2 := HOLD.out (qs.getD m 0) (by rw [List.getD_eq_getElem?_getD, List.getElem?_eq_getElem hml]; exact List.getElem_mem _)
                  generalize qs.getD m 0 = p at c1 c2
                  go_wp2
                  go_roundw
                  case rel => exact ⟨m + 1, q3, by omega, by go_num, rfl⟩
                  case measure => simp [intOf]; omega
                · go_wp2
                  go_roundw
                  case rel => exact ⟨g + 1, q3, by omega, by go_num, rfl⟩
                  case measure => simp [intOf]; omega
          · have hdg : decide ((L : Int) ≤ (g : Int)) = true := by simp; omega
            by_cases hg5 : g < 5
            · obtain ⟨qb, _⟩ := HI.out.bygCell hg5
              obtain ⟨aw, cw, hvw, hnw, hcw⟩ := ownsRow_form (HI.out.rows.own (5 + g))
              rw [hvw, ← HE.out g hg5, (HI.out.out g (by omega) hg5).2] at qb
              simp only [List.length_nil] at qb
              have hgi : (g : Int) < 5 := by omega
              clear hvw hnw hcw
              go_wp2_with (first | (go_at_call 8; refine (lawS2946CHeld.held_out _ L cv _ av _ (by exact q0) (by omega)).mono ?_; rintro e w' ⟨rfl, rfl⟩) | (go_at_call 11; refine (same_zero _ _ _ _ _).mono ?_; rintro e w' ⟨rfl, q2, rfl⟩))
              refine wp_loop_rounds 1 ?_
              rw [rounds_succ]
              go_wp2
              go_roundw
              case rel => exact ⟨g + 1, q + q2, by omega, by go_num, rfl⟩
              case measure => simp [intOf]; omega
            · have hgi : ¬ (g : Int) < 5 := by omega
              go_wp2_with (first | (go_at_call 8; refine (lawS2946CHeld.held_out _ L cv _ av _ (by exact q0) (by omega)).mono ?_; rintro e w' ⟨rfl, rfl⟩) | (go_at_call 11; refine (same_zero _ _ _ _ _).mono ?_; rintro e w' ⟨rfl, q2, rfl⟩))
              refine wp_loop_rounds 1 ?_
              rw [rounds_succ]
              go_wp2
              go_roundw
              case rel => exact ⟨g + 1, q + q2, by omega, by go_num, rfl⟩
              case measure => simp [intOf]; omega
        · go_wp2
          go_ret
          exact ⟨rfl, below_drewN HI.out.below _⟩

set_option maxRecDepth 100000 in
set_option maxHeartbeats 4000000 in
theorem walk_zero (a0 : Option Addr) (cap0 : Nat) (w : World) :
    Calls Yba.prog 5 #[.slice a0 0 cap0] w fun e w' => e = .returned (.bool true) ∧ Below w.heap.size w w' := by
  have qn : ∀ (w : World) (a : Option Addr) (n c n' c' : Nat), (binOp .neq 64 (.slice a n c) (.slice none n' c')).run Yba.prog w = .ok (.bool (!a.isNone)) w := fun w a n c n' c' => run_neq_slice_nil_any w _ _ a n c n' c' Yba.underlying64
  go_enter Yba.func5, Yba.ntmps5
  go_wp2
  have hI := Inv.start w
  obtain ⟨q0, _⟩ := hI.cells
  have HI := hide hI
  clear hI
  refine wp_loop_rounds 1 ?_
  rw [rounds_succ]
  generalize (w.alloc (.cells #[.slice none 0 0, .map none, .map none, .slice none 0 0] 66)).alloc (.cells #[.slice none 0 0, .slice none 0 0, .slice none 0 0, .slice none 0 0, .slice none 0 0] 79) = wf at *
  go_wp2
  go_loopw [10] (fun s10 wx => ∃ g q : Nat, g ≤ 7 ∧ s10 = .int .i64 g ∧ wx = wf.drewN q) (fun s10 _ => 7 - (intOf s10).toNat)
  case atStart => exact ⟨0, 0, Nat.zero_le _, rfl, rfl⟩
  case round =>
    obtain ⟨g, q, hg7, rfl, rfl⟩ := hrel
    by_cases hlt7 : g < 7
    · by_cases hg5 : g < 5
      · obtain ⟨qb, _⟩ := HI.out.bygCell hg5
        have hgi : (g : Int) < 5 := by omega
        go_wp2_with (first | (go_at_call 8; refine (lawS2946CHeld.held_out _ 0 0 _ none _ (by exact q0) (by omega)).mono ?_; rintro e w' ⟨rfl, rfl⟩) | (go_at_call 11; refine (same_zero _ _ _ _ _).mono ?_; rintro e w' ⟨rfl, q2, rfl⟩))
        refine wp_loop_rounds 1 ?_
        rw [rounds_succ]
        go_wp2
        go_roundw
        case rel => exact ⟨g + 1, q + q2, by omega, by go_num, rfl⟩
        case measure => simp [intOf]; omega
      · have hgi : ¬ (g : Int) < 5 := by omega
        go_wp2_with (first | (go_at_call 8; refine (lawS2946CHeld.held_out _ 0 0 _ none _ (by exact q0) (by omega)).mono ?_; rintro e w' ⟨rfl, rfl⟩) | (go_at_call 11; refine (same_zero _ _ _ _ _).mono ?_; rintro e w' ⟨rfl, q2, rfl⟩))
        refine wp_loop_rounds 1 ?_
        rw [rounds_succ]
        go_wp2
        go_roundw
        case rel => exact ⟨g + 1, q + q2, by omega, by go_num, rfl⟩
        case measure => simp [intOf]; omega
    · go_wp2
      go_ret
      exact ⟨rfl, below_drewN HI.out.below _⟩

theorem walk_long (a0 : Option Addr) (len0 cap0 : Nat) (w : World) (hl : 1024 < len0) :
    Calls Yba.prog 5 #[.slice a0 len0 cap0] w fun e w' => e = .returned (.bool true) ∧ Below w.heap.size w w' := by
  go_enter Yba.func5, Yba.ntmps5
  go_wp2
  go_ret
  exact ⟨rfl, Below.refl _ _⟩

end Go.Proofs.Ybulkbhzi.lawS2946CTaken

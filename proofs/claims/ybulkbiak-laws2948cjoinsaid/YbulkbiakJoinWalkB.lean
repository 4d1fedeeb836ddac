/-
  THE WALK OF 'LawS2948CJoin', way B of its switch.
-/
import Derived.Test.YbulkbiakJoinMid
namespace Go.Proofs.Ybulkbiak.lawS2948CJoin
open Go.ChangeShapes Go.WideShapes Go.ChangeAt Go.RowKit Go.Proofs.Ybulkbiak.JoinParts
set_option linter.unusedVariables false

set_option maxRecDepth 100000 in
set_option maxHeartbeats 8000000 in
theorem walk_mainB (a0 : Option Addr) (n cap0 : Nat) (Z0 : Nat → Int) (a1 : Option Addr) (len1 cap1 : Nat) (Z1 : Nat → Int) (a2 : Option Addr) (m cap2 : Nat) (Z2 : Nat → Int) (gid prev com ts sel : Int) (w : World)
    (s0 : Src w a0 n Z0) (s1 : Src w a1 len1 Z1) (s2 : Src w a2 m Z2) (hn0 : 0 < n) (hn : n ≤ 1024) (hl1 : len1 ≤ 1024) (hm : m ≤ 1024) (hts : 0 ≤ ts ∧ ts ≤ 4294967295) (hsel : 0 ≤ sel ∧ sel ≤ 4294967295) (c0 : (sel % 3 == 0) = false) (c1 : (sel % 3 == 1) = true) :
    Calls Yba.prog 3 #[.slice a0 n cap0, .slice a1 len1 cap1, .slice a2 m cap2, .int .i32 gid, .int .i32 prev, .int .i64 com, .int .u32 ts, .int .u32 sel] w fun e w' => e = .returned (.bool true) ∧ Below w.heap.size w w' := by
  have S0 := hide s0
  have S1 := hide s1
  have S2 := hide s2
  clear s0 s1 s2
  have hmn := run_make_row' (P := Yba.prog) 22 21 (.int .i32 0) 4 Yba.underlying22 info21 rfl .i64 .i64 n (by omega) (by omega)
  have hmm := run_make_row' (P := Yba.prog) 22 21 (.int .i32 0) 4 Yba.underlying22 info21 rfl .i64 .i64 m (by omega) (by omega)
  have d0 : ((n : Int) == 0) = false := by simp; omega
  have d1 : decide (1024 < (n : Int)) = false := by simp; omega
  have d2 : decide (1024 < (len1 : Int)) = false := by simp; omega
  have d3 : decide (1024 < (m : Int)) = false := by simp; omega
  obtain ⟨t, ht⟩ : ∃ t : Nat, ts % (n : Int) = (t : Int) := ⟨(ts % (n : Int)).toNat, by have := Int.emod_nonneg ts (b := (n : Int)) (by omega); omega⟩
  have htn : t < n := by have := Int.emod_lt_of_pos ts (b := (n : Int)) (by omega); omega
  obtain ⟨v1, w1, e1, r1, g1, z1⟩ := run_copy_new (P := Yba.prog) w 3 Yba.underlying22 size21 n a0 n cap0 Z0 S0.out.cut
  obtain ⟨v2, w2, e2, r2, g2, z2⟩ := run_copy_new (P := Yba.prog) w1 3 Yba.underlying22 size21 n a1 len1 cap1 Z1 (S1.out.later g1).cut
  have R1 := hide r1
  have G1 := hide g1
  have R2 := hide r2
  have G2 := hide g2
  have r1' := row_kept r1 g2 (by simp)
  have rb := r1'.cell htn
  have fb := r1'.frozen t
  have hti : (t : Int) < (n : Int) := by omega
  clear r1 g1 r2 g2 r1'
  have M2 := hide (Mid.of R1.out G1.out z1 R2.out G2.out z2)
  clear R1 G1 R2 G2
  go_enter Yba.func3, Yba.ntmps3
  go_upto_region 14 with fail
  have hM := M2.out.set t prev
  clear M2 e1 e2 rb fb
  generalize upd (fun i => if i < n then Z0 i else 0) t prev = bin at hM
  generalize w2.setCell ⟨w.heap.size, t, none⟩ (.int .i32 prev) = w3 at hM ⊢
  generalize (fun i => if i < len1 then Z1 i else 0) = al at hM
  clear S0 S1 d0 d1 d2 d3 ht z1 z2
  generalize w1.heap.size = b1 at *
  have M := hide hM
  obtain ⟨v3, w4, e3, r3, g3, z3⟩ := run_copy_new (P := Yba.prog) w3 3 Yba.underlying22 size21 n (some ⟨w.heap.size, 0, none⟩) n n bin (src_row hM.r0).cut
  obtain ⟨v4, w5, e4, r4, g4, z4⟩ := run_copy_new (P := Yba.prog) w4 3 Yba.underlying22 size21 n (some ⟨b1, 0, none⟩) n n al (src_row (row_kept hM.r1 g3 (by simp))).cut
  obtain ⟨v5, w6, e5, r5, g5, z5⟩ := run_copy_new (P := Yba.prog) w5 3 Yba.underlying22 size21 m a2 m cap2 Z2 (((S2.out.later hM.gr).later g3).later g4).cut
  have R3 := hide ((row_kept r3 (grown_trans g4 g5) (by simp)).congr (g := fun i => Value.int .i32 (bin i)) fun i hi => by simp [hi])
  have R4 := hide ((row_kept r4 g5 (by simp)).congr (g := fun i => Value.int .i32 (al i)) fun i hi => by simp [hi])
  have r5' := r5.congr (g := fun i => Value.int .i32 (Z2 i)) fun i hi => by simp [hi]
  have HJ := hide (JS.of (gid := gid) (com := com) hM g3 g4 g5 r5' hm)
  have rb := (row_kept hM.r0 (grown_trans (grown_trans g3 g4) g5) (by simp)).cell htn
  have GR := hide (grown_trans (grown_trans (grown_trans hM.gr g3) g4) g5)
  have LT := hide hM.lt
  clear hM r3 r4 r5 r5' g3 g4 g5 M
  have lt4 := R4.out.lt
  have lt3 := R3.out.lt
  have lb := LT.out
  rcases (show (bin t == gid) = true ∨ ((bin t == gid) = false ∧ (bin t == prev) = false) ∨ ((bin t == gid) = false ∧ (bin t == prev) = true) by
    cases h0 : (bin t == gid) <;> cases h1 : (bin t == prev) <;> simp) with he | ⟨he, hp⟩ | ⟨he, hp⟩
  · have hne : (bin t != gid) = false := by rw [bne, he]; rfl
    go_wp2_with fail
    have G7 : w6.grownBy ((w6.alloc (Obj.cells #[Value.slice none 0 0, Value.slice none 0 0, Value.int IntKind.i32 7, Value.int IntKind.i32 3, Value.slice (some ⟨w.heap.size, 0, none⟩) n n, Value.slice (some ⟨b1, 0, none⟩) n n] 26)).alloc (Obj.cells #[Value.int IntKind.i32 gid, Value.int IntKind.u8 2, Value.slice (some ⟨w5.heap.size, 0, none⟩) m m, Value.int IntKind.i64 com] 30)) none := grown_trans (grown_alloc _ _) (grown_alloc _ _)
    generalize ((w6.alloc (Obj.cells #[Value.slice none 0 0, Value.slice none 0 0, Value.int IntKind.i32 7, Value.int IntKind.i32 3, Value.slice (some ⟨w.heap.size, 0, none⟩) n n, Value.slice (some ⟨b1, 0, none⟩) n n] 26)).alloc (Obj.cells #[Value.int IntKind.i32 gid, Value.int IntKind.u8 2, Value.slice (some ⟨w5.heap.size, 0, none⟩) m m, Value.int IntKind.i64 com] 30)) = w7 at HJ G7 ⊢
    have B7 : Below w.heap.size w w7 := below_of_grown (grown_trans GR.out G7) (Nat.le_refl _)
    refine (join_same w.heap.size w.heap.size b1 w6.heap.size (w6.heap.size + 1) n t bin al (.slice (some ⟨w5.heap.size, 0, none⟩) m m) gid com prev ((List.range m).map Z2) w7 HJ.out htn hn he).mono ?_
    rintro e w8 ⟨rfl, q, hw8⟩
    obtain ⟨tv, J8, O8, B8⟩ : ∃ tv, JS w8 w.heap.size w.heap.size b1 w6.heap.size (w6.heap.size + 1) n bin al tv gid com ((List.range m).map Z2) ∧ Only w7 w8 w.heap.size b1 (w6.heap.size + 1) (.slice (some ⟨w5.heap.size, 0, none⟩) m m) ∧ Below w.heap.size w7 w8 := by
      subst hw8
      exact ⟨_, HJ.out.later (grown_drewN _ _ none), Only.grown (grown_drewN _ _ none) (by simp), below_drewN (Below.refl _ _) _⟩
    clear hw8
    have G6 : Hid (w6.heap.size < w7.heap.size) := lt_of_block HJ.out.bb
    have R3' := only_row O8 (row_kept R3.out G7 (by simp)) (by omega) (by omega) (by omega) (by simp [Value.ownBlock]; omega)
    have R4' := only_row O8 (row_kept R4.out G7 (by simp)) (by omega) (by omega) (by omega) (by simp [Value.ownBlock]; omega)
    have BW := hide (B7.trans B8)
    have S28 : Src w8 a2 m Z2 := fun h0 => by
      obtain ⟨ad, rfl, hc⟩ := S2.out h0
      exact ⟨ad, rfl, fun j hj => (BW.out.cell (World.block_lt_of_cell? w _ (hc j hj))).trans (hc j hj)⟩
    have RR3 := hide R3'
    have RR4 := hide R4'
    have J := hide J8
    have SS := hide S28
    obtain ⟨q0, q1, q2, q3, q4⟩ := JS_more J8
    obtain ⟨p1, p2, p3, p4, p5, _⟩ := JS_cells J8
    obtain ⟨av, cv, rfl⟩ := tx_form (L := m) J8.tx (by simp)
    clear O8 B8 J8 R3' R4' S28 B7 G7 HJ e3 e4 e5 hmn hmm R3 R4 GR S2 rb
    go_wp2_with fail
    go_loopw [29] (fun s29 wx => ∃ i : Nat, i ≤ n ∧ s29 = .int .i64 i ∧ w8 = wx) (fun s29 _ => n - (intOf s29).toNat)
    case atStart => exact ⟨0, Nat.zero_le _, rfl, rfl⟩
    case round =>
      obtain ⟨i, hi, rfl, rfl⟩ := hrel
      by_cases hin : i < n
      · have hii : (i : Int) < (n : Int) := by omega
        have k3 := RR3.out.cell hin
        have k4 := RR4.out.cell hin
        have k0 := J.out.r0.cell hin
        have k1 := J.out.r1.cell hin
        by_cases hit : i = t
        · have hiq : ((i : Int) == (t : Int)) = true := by simp [hit]
          clear hit
          go_wp2
          go_roundw
          case rel => exact ⟨i + 1, by omega, by go_num, by trivial⟩
          case measure => simp [intOf]; omega
        · have hiq : ((i : Int) == (t : Int)) = false := by simp; omega
          clear hit
          go_wp2
          go_roundw
          case rel => exact ⟨i + 1, by omega, by go_num, by trivial⟩
          case measure => simp [intOf]; omega
      · by_cases hm0 : m = 0
        · subst hm0
          go_wp2_with fail
          refine wp_loop_rounds 1 ?_
          rw [rounds_succ]
          go_wp2
          go_ret
          exact ⟨rfl, BW.out⟩
        · obtain ⟨ad, rfl, hsc⟩ := SS.out (by omega)
          obtain ⟨bt, ot, rfl, hsc'⟩ := plain_at hsc (by omega)
          obtain ⟨gt, cv', hgt, hcl, hcm, hcc⟩ := tx_cells (L := m) J.out.tx (by simp) (by omega)
          simp only [Value.slice.injEq] at hgt
          obtain ⟨rfl, _, rfl⟩ := hgt
          unfold maxLen at hcm
          have HCC := hide hcc
          have HSC := hide hsc'
          clear hcc hsc hsc'
          go_wp2_with fail
          go_loopw [34] (fun s34 wx => ∃ j q : Nat, j ≤ m ∧ s34 = .int .i64 j ∧ wx = w8.drewN q) (fun s34 _ => m - (intOf s34).toNat)
          case atStart => exact ⟨0, 0, Nat.zero_le _, rfl, rfl⟩
          case round =>
            obtain ⟨j, q, hj, rfl, rfl⟩ := hrel
            by_cases hjm : j < m
            · have hji : (j : Int) < (m : Int) := by omega
              have k1 := HCC.out j (by omega)
              have k2 := HSC.out j hjm
              rw [show ((List.range m).map Z2).getD j 0 = Z2 j by simp [hjm]] at k1
              go_wp2_with fail
              go_quiet (fail)
              go_wp2
              go_roundw
              case rel => exact ⟨j + 1, q + nq, by omega, by go_num, rfl⟩
              case measure => simp [intOf]; omega
            · go_wp2
              go_ret
              exact ⟨rfl, below_drewN BW.out _⟩
  · have hne : (bin t != gid) = true := by rw [bne, he]; rfl
    go_wp2_with fail
    have G7 : w6.grownBy ((w6.alloc (Obj.cells #[Value.slice none 0 0, Value.slice none 0 0, Value.int IntKind.i32 7, Value.int IntKind.i32 3, Value.slice (some ⟨w.heap.size, 0, none⟩) n n, Value.slice (some ⟨b1, 0, none⟩) n n] 26)).alloc (Obj.cells #[Value.int IntKind.i32 gid, Value.int IntKind.u8 2, Value.slice (some ⟨w5.heap.size, 0, none⟩) m m, Value.int IntKind.i64 com] 30)) none := grown_trans (grown_alloc _ _) (grown_alloc _ _)
    generalize ((w6.alloc (Obj.cells #[Value.slice none 0 0, Value.slice none 0 0, Value.int IntKind.i32 7, Value.int IntKind.i32 3, Value.slice (some ⟨w.heap.size, 0, none⟩) n n, Value.slice (some ⟨b1, 0, none⟩) n n] 26)).alloc (Obj.cells #[Value.int IntKind.i32 gid, Value.int IntKind.u8 2, Value.slice (some ⟨w5.heap.size, 0, none⟩) m m, Value.int IntKind.i64 com] 30)) = w7 at HJ G7 ⊢
    have B7 : Below w.heap.size w w7 := below_of_grown (grown_trans GR.out G7) (Nat.le_refl _)
    refine (join_miss w.heap.size w.heap.size b1 w6.heap.size (w6.heap.size + 1) n t bin al (.slice (some ⟨w5.heap.size, 0, none⟩) m m) gid com prev ((List.range m).map Z2) w7 HJ.out htn hn (by simpa using hm) he hp).mono ?_
    rintro e w8 ⟨rfl, tv, J8, O8, B8⟩
    have G6 : Hid (w6.heap.size < w7.heap.size) := lt_of_block HJ.out.bb
    have R3' := only_row O8 (row_kept R3.out G7 (by simp)) (by omega) (by omega) (by omega) (by simp [Value.ownBlock]; omega)
    have R4' := only_row O8 (row_kept R4.out G7 (by simp)) (by omega) (by omega) (by omega) (by simp [Value.ownBlock]; omega)
    have BW := hide (B7.trans B8)
    have S28 : Src w8 a2 m Z2 := fun h0 => by
      obtain ⟨ad, rfl, hc⟩ := S2.out h0
      exact ⟨ad, rfl, fun j hj => (BW.out.cell (World.block_lt_of_cell? w _ (hc j hj))).trans (hc j hj)⟩
    have RR3 := hide R3'
    have RR4 := hide R4'
    have J := hide J8
    have SS := hide S28
    obtain ⟨q0, q1, q2, q3, q4⟩ := JS_more J8
    obtain ⟨p1, p2, p3, p4, p5, _⟩ := JS_cells J8
    obtain ⟨av, cv, rfl⟩ := tx_form (L := (m + 1)) J8.tx (by simp)
    clear O8 B8 J8 R3' R4' S28 B7 G7 HJ e3 e4 e5 hmn hmm R3 R4 GR S2 rb
    go_wp2_with fail
    go_loopw [29] (fun s29 wx => ∃ i : Nat, i ≤ n ∧ s29 = .int .i64 i ∧ w8 = wx) (fun s29 _ => n - (intOf s29).toNat)
    case atStart => exact ⟨0, Nat.zero_le _, rfl, rfl⟩
    case round =>
      obtain ⟨i, hi, rfl, rfl⟩ := hrel
      by_cases hin : i < n
      · have hii : (i : Int) < (n : Int) := by omega
        have k3 := RR3.out.cell hin
        have k4 := RR4.out.cell hin
        have k0 := J.out.r0.cell hin
        have k1 := J.out.r1.cell hin
        by_cases hit : i = t
        · have hiq : ((i : Int) == (t : Int)) = true := by simp [hit]
          rw [hit, upd_same, ← hit] at k0
          clear hit
          go_wp2
          go_roundw
          case rel => exact ⟨i + 1, by omega, by go_num, by trivial⟩
          case measure => simp [intOf]; omega
        · have hiq : ((i : Int) == (t : Int)) = false := by simp; omega
          rw [upd_other _ _ hit] at k0
          clear hit
          go_wp2
          go_roundw
          case rel => exact ⟨i + 1, by omega, by go_num, by trivial⟩
          case measure => simp [intOf]; omega
      · by_cases hm0 : m = 0
        · subst hm0
          obtain ⟨gt, cv', hgt, hcl, hcm, hcc⟩ := tx_cells (L := (0 + 1)) J.out.tx (by simp) (by omega)
          simp only [Value.slice.injEq] at hgt
          obtain ⟨rfl, _, rfl⟩ := hgt
          have hlast : w8.cell? ⟨gt, 0, none⟩ = some (.int .i32 (t : Int)) := by
            have := hcc 0 (by omega)
            simpa using this
          unfold maxLen at hcm
          go_wp2_with fail
          refine wp_loop_rounds 1 ?_
          rw [rounds_succ]
          go_wp2
          go_ret
          exact ⟨rfl, BW.out⟩
        · obtain ⟨ad, rfl, hsc⟩ := SS.out (by omega)
          obtain ⟨bt, ot, rfl, hsc'⟩ := plain_at hsc (by omega)
          obtain ⟨gt, cv', hgt, hcl, hcm, hcc⟩ := tx_cells (L := (m + 1)) J.out.tx (by simp) (by omega)
          simp only [Value.slice.injEq] at hgt
          obtain ⟨rfl, _, rfl⟩ := hgt
          have hlast : w8.cell? ⟨gt, m, none⟩ = some (.int .i32 (t : Int)) := by
            have := hcc m (by omega)
            simpa using this
          unfold maxLen at hcm
          have HCC := hide hcc
          have HSC := hide hsc'
          clear hcc hsc hsc'
          go_wp2_with fail
          go_loopw [34] (fun s34 wx => ∃ j q : Nat, j ≤ m ∧ s34 = .int .i64 j ∧ wx = w8.drewN q) (fun s34 _ => m - (intOf s34).toNat)
          case atStart => exact ⟨0, 0, Nat.zero_le _, rfl, rfl⟩
          case round =>
            obtain ⟨j, q, hj, rfl, rfl⟩ := hrel
            by_cases hjm : j < m
            · have hji : (j : Int) < (m : Int) := by omega
              have k1 := HCC.out j (by omega)
              have k2 := HSC.out j hjm
              rw [show ((List.range m).map Z2 ++ [(t : Int)]).getD j 0 = Z2 j by simp [List.getElem?_append, hjm]] at k1
              have hji2 : (j : Int) < (m : Int) + 1 := by omega
              go_wp2_with fail
              go_quiet (fail)
              go_wp2
              go_roundw
              case rel => exact ⟨j + 1, q + nq, by omega, by go_num, rfl⟩
              case measure => simp [intOf]; omega
            · go_wp2
              go_ret
              exact ⟨rfl, below_drewN BW.out _⟩
  · have hne : (bin t != gid) = true := by rw [bne, he]; rfl
    go_wp2_with fail
    have G7 : w6.grownBy ((w6.alloc (Obj.cells #[Value.slice none 0 0, Value.slice none 0 0, Value.int IntKind.i32 7, Value.int IntKind.i32 3, Value.slice (some ⟨w.heap.size, 0, none⟩) n n, Value.slice (some ⟨b1, 0, none⟩) n n] 26)).alloc (Obj.cells #[Value.int IntKind.i32 gid, Value.int IntKind.u8 2, Value.slice (some ⟨w5.heap.size, 0, none⟩) m m, Value.int IntKind.i64 com] 30)) none := grown_trans (grown_alloc _ _) (grown_alloc _ _)
    generalize ((w6.alloc (Obj.cells #[Value.slice none 0 0, Value.slice none 0 0, Value.int IntKind.i32 7, Value.int IntKind.i32 3, Value.slice (some ⟨w.heap.size, 0, none⟩) n n, Value.slice (some ⟨b1, 0, none⟩) n n] 26)).alloc (Obj.cells #[Value.int IntKind.i32 gid, Value.int IntKind.u8 2, Value.slice (some ⟨w5.heap.size, 0, none⟩) m m, Value.int IntKind.i64 com] 30)) = w7 at HJ G7 ⊢
    have B7 : Below w.heap.size w w7 := below_of_grown (grown_trans GR.out G7) (Nat.le_refl _)
    refine (join_hit w.heap.size w.heap.size b1 w6.heap.size (w6.heap.size + 1) n t bin al (.slice (some ⟨w5.heap.size, 0, none⟩) m m) gid com prev ((List.range m).map Z2) w7 HJ.out htn hn (by simpa using hm) he hp).mono ?_
    rintro e w8 ⟨rfl, tv, J8, O8, B8⟩
    have G6 : Hid (w6.heap.size < w7.heap.size) := lt_of_block HJ.out.bb
    have R3' := only_row O8 (row_kept R3.out G7 (by simp)) (by omega) (by omega) (by omega) (by simp [Value.ownBlock]; omega)
    have R4' := only_row O8 (row_kept R4.out G7 (by simp)) (by omega) (by omega) (by omega) (by simp [Value.ownBlock]; omega)
    have BW := hide (B7.trans B8)
    have S28 : Src w8 a2 m Z2 := fun h0 => by
      obtain ⟨ad, rfl, hc⟩ := S2.out h0
      exact ⟨ad, rfl, fun j hj => (BW.out.cell (World.block_lt_of_cell? w _ (hc j hj))).trans (hc j hj)⟩
    have RR3 := hide R3'
    have RR4 := hide R4'
    have J := hide J8
    have SS := hide S28
    obtain ⟨q0, q1, q2, q3, q4⟩ := JS_more J8
    obtain ⟨p1, p2, p3, p4, p5, _⟩ := JS_cells J8
    obtain ⟨av, cv, rfl⟩ := tx_form (L := (m + 1)) J8.tx (by simp)
    clear O8 B8 J8 R3' R4' S28 B7 G7 HJ e3 e4 e5 hmn hmm R3 R4 GR S2 rb
    go_wp2_with fail
    go_loopw [29] (fun s29 wx => ∃ i : Nat, i ≤ n ∧ s29 = .int .i64 i ∧ w8 = wx) (fun s29 _ => n - (intOf s29).toNat)
    case atStart => exact ⟨0, Nat.zero_le _, rfl, rfl⟩
    case round =>
      obtain ⟨i, hi, rfl, rfl⟩ := hrel
      by_cases hin : i < n
      · have hii : (i : Int) < (n : Int) := by omega
        have k3 := RR3.out.cell hin
        have k4 := RR4.out.cell hin
        have k0 := J.out.r0.cell hin
        have k1 := J.out.r1.cell hin
        by_cases hit : i = t
        · have hiq : ((i : Int) == (t : Int)) = true := by simp [hit]
          rw [hit, upd_same, ← hit] at k0
          rw [hit, upd_same, ← hit] at k1
          clear hit
          go_wp2
          go_roundw
          case rel => exact ⟨i + 1, by omega, by go_num, by trivial⟩
          case measure => simp [intOf]; omega
        · have hiq : ((i : Int) == (t : Int)) = false := by simp; omega
          rw [upd_other _ _ hit] at k0
          rw [upd_other _ _ hit] at k1
          clear hit
          go_wp2
          go_roundw
          case rel => exact ⟨i + 1, by omega, by go_num, by trivial⟩
          case measure => simp [intOf]; omega
      · by_cases hm0 : m = 0
        · subst hm0
          obtain ⟨gt, cv', hgt, hcl, hcm, hcc⟩ := tx_cells (L := (0 + 1)) J.out.tx (by simp) (by omega)
          simp only [Value.slice.injEq] at hgt
          obtain ⟨rfl, _, rfl⟩ := hgt
          have hlast : w8.cell? ⟨gt, 0, none⟩ = some (.int .i32 (t : Int)) := by
            have := hcc 0 (by omega)
            simpa using this
          unfold maxLen at hcm
          go_wp2_with fail
          refine wp_loop_rounds 1 ?_
          rw [rounds_succ]
          go_wp2
          go_ret
          exact ⟨rfl, BW.out⟩
        · obtain ⟨ad, rfl, hsc⟩ := SS.out (by omega)
          obtain ⟨bt, ot, rfl, hsc'⟩ := plain_at hsc (by omega)
          obtain ⟨gt, cv', hgt, hcl, hcm, hcc⟩ := tx_cells (L := (m + 1)) J.out.tx (by simp) (by omega)
          simp only [Value.slice.injEq] at hgt
          obtain ⟨rfl, _, rfl⟩ := hgt
          have hlast : w8.cell? ⟨gt, m, none⟩ = some (.int .i32 (t : Int)) := by
            have := hcc m (by omega)
            simpa using this
          unfold maxLen at hcm
          have HCC := hide hcc
          have HSC := hide hsc'
          clear hcc hsc hsc'
          go_wp2_with fail
          go_loopw [34] (fun s34 wx => ∃ j q : Nat, j ≤ m ∧ s34 = .int .i64 j ∧ wx = w8.drewN q) (fun s34 _ => m - (intOf s34).toNat)
          case atStart => exact ⟨0, 0, Nat.zero_le _, rfl, rfl⟩
          case round =>
            obtain ⟨j, q, hj, rfl, rfl⟩ := hrel
            by_cases hjm : j < m
            · have hji : (j : Int) < (m : Int) := by omega
              have k1 := HCC.out j (by omega)
              have k2 := HSC.out j hjm
              rw [show ((List.range m).map Z2 ++ [(t : Int)]).getD j 0 = Z2 j by simp [List.getElem?_append, hjm]] at k1
              have hji2 : (j : Int) < (m : Int) + 1 := by omega
              go_wp2_with fail
              go_quiet (fail)
              go_wp2
              go_roundw
              case rel => exact ⟨j + 1, q + nq, by omega, by go_num, rfl⟩
              case measure => simp [intOf]; omega
            · go_wp2
              go_ret
              exact ⟨rfl, below_drewN BW.out _⟩

end Go.Proofs.Ybulkbiak.lawS2948CJoin

/-
  The walk of 'LawS2950CBefore'.
-/
import Derived.Test.YbulkbibmMapParts
import Derived.Deep.RegionWith
import Derived.Laws.MakeOwn
import Derived.LaidEqlPtr
import Derived.Deep.CutBlock
import Derived.BigQuiet
import Derived.Lib.Builder
namespace Go.Proofs.Ybulkbibm.Time
open Go.ChangeShapes Go.WideShapes Go.ChangeAt Go.RowKit
set_option linter.unusedVariables false

theorem size30 : (Yba.prog.info? 30).map (·.size) = some 3 := by kernel_rfl
theorem size34 : (Yba.prog.info? 34).map (·.size) = some 6 := by kernel_rfl
theorem size38 : (Yba.prog.info? 38).map (·.size) = some 10 := by kernel_rfl
theorem info61 : (Yba.prog.info? 61).isSome = true := by kernel_rfl
theorem info38 : (Yba.prog.info? 38).isSome = true := by kernel_rfl
theorem info34 : (Yba.prog.info? 34).isSome = true := by kernel_rfl
theorem info42 : (Yba.prog.info? 42).isSome = true := by kernel_rfl
theorem made34 : (Yba.prog.info? 34).map (fun i => (i.zero.isSome, i.size, i.bytes)) = some (true, 6, 56) := by kernel_rfl
theorem made38 : (Yba.prog.info? 38).map (fun i => (i.zero.isSome, i.size, i.bytes)) = some (true, 10, 96) := by kernel_rfl

theorem make_run (t e : TypeId) (sz by_ : Nat) (hu : Yba.prog.underlying t = some (.slice e)) (hi : (Yba.prog.info? e).map (fun i => (i.zero.isSome, i.size, i.bytes)) = some (true, sz, by_)) (hb : by_ ≤ 1000) (w : World) (n : Nat) (hn : n ≤ 2000) :
    ∃ Z : Array Value, Z.size = n * sz ∧ (Instr.makeSlice t (.int .i64 (n : Int)) (.int .i64 (n : Int))).run Yba.prog w = .ok (.slice (some ⟨w.heap.size, 0, none⟩) n n) (w.alloc (.cells Z e)) := by
  cases hq : Yba.prog.info? e with
  | none => rw [hq] at hi; simp at hi
  | some i =>
    rw [hq] at hi
    simp at hi
    obtain ⟨h1, h2, h3⟩ := hi
    obtain ⟨z, hz⟩ := Option.isSome_iff_exists.1 h1
    refine ⟨madeCells z.cells (n * sz), size_madeCells _ _, ?_⟩
    have hbn : (i.bytes : Int) * (n : Int) ≤ 281474976710656 := by
      rw [h3]
      have : by_ * n ≤ 1000 * 2000 := Nat.mul_le_mul hb hn
      have h4 : ((by_ * n : Nat) : Int) ≤ 2000000 := by omega
      rw [Int.natCast_mul] at h4
      omega
    have := run_make (P := Yba.prog) w t e i z hu hq hz .i64 .i64 (n : Int) (n : Int) (by omega) (by omega) hbn (by omega)
    rw [h2] at this
    simpa using this

set_option maxRecDepth 100000 in
set_option maxHeartbeats 8000000 in
theorem law_main (base : Int) (a1 : Option Addr) (n cap1 : Nat) (D : Nat → Int) (a2 : Option Addr) (len2 cap2 : Nat) (C : Nat → Int) (kx : Int) (dir : ByteArray) (w : World)
    (hb0 : -32768 ≤ base) (hb1 : base ≤ 32767) (hs1 : Src .u8 w a1 n D) (hs2 : Src .i16 w a2 len2 C) (hD : ∀ i, 0 ≤ D i ∧ D i ≤ 255) (hC : ∀ i, -32768 ≤ C i ∧ C i ≤ 32767) (hk0 : 0 ≤ kx) (hk1 : kx ≤ 65535)
    (hn : n ≤ 1024) (hl2 : len2 ≤ 1024) :
    Calls Yba.prog 3 #[.int .i16 base, .slice a1 n cap1, .slice a2 len2 cap2, .int .u16 kx, .string dir] w fun e w' => e = .returned (.bool true) ∧ Below w.heap.size w w' := by
  have S1 := hide hs1
  have S2 := hide hs2
  have HD := hide hD
  have HC := hide hC
  clear hs1 hs2 hD hC
  have t1 : decide (1024 < (n : Int)) = false := by simp; omega
  have t2 : decide (1024 < (len2 : Int)) = false := by simp; omega
  obtain ⟨Z, hZ, hmk⟩ := make_run 26 34 6 56 Yba.underlying26 made34 (by decide) w n (by omega)
  go_enter Yba.func3, Yba.ntmps3
  go_upto_region 4 with fail
  obtain ⟨w1, hw1⟩ : ∃ w1, w1 = w.alloc (Obj.cells Z 34) := ⟨_, rfl⟩
  rw [← hw1]
  have row1 : Rowed w1 w.heap.size 34 6 n 0 (fun _ => 0) (fun _ => 0) := hw1 ▸ Rowed.made w Z 34 6 n hZ _ _
  have bel1 : Below w.heap.size w w1 := Below.more (Below.refl _ _) (hw1 ▸ World.grownBy_alloc w _ none) (by simp)
  clear hw1 hmk hZ
  have R1 := hide row1
  have B1 := hide bel1
  clear row1 bel1
  generalize hg : w.heap.size = g at *
  go_wp2_with fail
  refine (add_any 0 0 base w1 (by omega) (by omega) (by omega) (by omega) (by omega) (by omega)).mono ?_
  rintro e w2 ⟨W0, E0, rfl, p0, p1, p2, g2⟩
  have R2 := hide (R1.out.kept g2 (by simp))
  have B2 := hide (Below.more (hg ▸ B1.out) g2 (by simp))
  clear g2 R1 B1
  go_wp2_with fail
  obtain ⟨w3, hw3⟩ : ∃ w3, w3 = w2.alloc (Obj.cells #[.int .u64 W0, .int .i64 E0, .pointer none] 30) := ⟨_, rfl⟩
  rw [← hw3]
  have g3 : w2.grownBy w3 none := hw3 ▸ World.grownBy_alloc w2 _ none
  have tr3 : w3.rowIs w2.heap.size 30 3 (timeF W0 E0) := hw3 ▸ World.rowIs_alloc w2 #[.int .u64 W0, .int .i64 E0, .pointer none] 30 (timeF W0 E0) (fun i hi => by
    match i, hi with
    | 0, _ => rfl
    | 1, _ => rfl
    | 2, _ => rfl)
  have lt2 := R2.out.lt
  have le2 := B2.out.size
  have i3 : Inv1 w w3 g w2.heap.size n 0 (fun _ => 0) (fun _ => 0) W0 E0 :=
    ⟨Below.more B2.out g3 (by simp), by omega, by omega, by omega, R2.out.kept g3 (by simp), tr3, by simp, ⟨p0, p1⟩, ⟨by omega, by omega⟩, by simp, by simp⟩
  have I3 := hide i3
  clear i3 tr3 g3 hw3 R2 B2 p0 p1 p2
  generalize htb : w2.heap.size = tb at *
  clear htb
  go_loopw [13] (fun s13 wx => ∃ (i : Nat) (W E : Nat → Int) (Wc Ec : Int), i ≤ n ∧ s13 = .int .i64 (i : Int) ∧ Inv1 w wx g tb n i W E Wc Ec) (fun s13 _ => n - (intOf s13).toNat)
  case atStart => exact ⟨0, _, _, _, _, Nat.zero_le _, rfl, I3.out⟩
  case round =>
    obtain ⟨i, W, E, Wc, Ec, hi, rfl, hinv⟩ := hrel
    have I := hide hinv
    clear hinv I3
    by_cases hin : i < n
    · as_aux_lemma =>
      obtain ⟨b, off, rfl, hc0⟩ := S1.out i hin
      have hcd := below_cell I.out.bel hc0
      have c0 : wr.cell? ⟨tb, 0, none⟩ = some (.int .u64 Wc) := I.out.trow.cell (i := 0) (by decide)
      have c1 : wr.cell? ⟨tb, 1, none⟩ = some (.int .i64 Ec) := I.out.trow.cell (i := 1) (by decide)
      have c2 : wr.cell? ⟨tb, 2, none⟩ = some (.pointer none) := I.out.trow.cell (i := 2) (by decide)
      have rg := I.out.rng
      have cw := I.out.cw
      obtain ⟨dd0, dd1⟩ := HD.out i
      have hwd : IntKind.i64.wrap (D i) = D i := by rw [IntKind.wrap_i64]; omega
      have bi0 : (0 : Int) ≤ (i : Int) := by omega
      have bi1 : (i : Int) < (n : Int) := by omega
      go_upto_region 8 with fail
      go_region_with (first | (go_at_call 4; refine (add_any Wc Ec (D i) _ cw.1 cw.2 (by omega) (by omega) (by omega) (by omega)).mono ?_; rintro e w' ⟨W', E', rfl, p0, p1, p2, g2⟩; have x0 := kept g2 (w := wr.drew) c0; have x1 := kept g2 (w := wr.drew) c1; have x2 := kept g2 (w := wr.drew) c2; have tr := row_kept (w := wr.drew) I.out.trow g2 (by simp); have f0 := tr.frozen 0; have f1 := tr.frozen 1; have f2 := tr.frozen 2; have TR := hide tr; have G2 := hide g2; clear g2 tr))
      all_goals go_upto_region 9 with fail
      all_goals (
        obtain ⟨w4, hw4⟩ : ∃ w4, w4 = ((w'.setCell ⟨tb, 0, none⟩ (.int .u64 W')).setCell ⟨tb, 1, none⟩ (.int .i64 E')).setCell ⟨tb, 2, none⟩ (.pointer none) := ⟨_, rfl⟩
        rw [← hw4]
        have tr4 : w4.rowIs tb 30 3 (timeF W' E') := hw4 ▸ (((TR.out.set 0 (.int .u64 W')).set 1 (.int .i64 E')).set 2 (.pointer none)).congr (fun j hj => by
          match j, hj with
          | 0, _ => rfl
          | 1, _ => rfl
          | 2, _ => rfl)
        have g4 : w'.grownBy w4 (some tb) := hw4 ▸ grown_trans (grown_trans (grown_setCell _ _ _ _) (grown_setCell _ _ _ _)) (grown_setCell _ _ _ _)
        have y0 : w4.cell? ⟨tb, 0, none⟩ = some (.int .u64 W') := tr4.cell (i := 0) (by decide)
        have y1 : w4.cell? ⟨tb, 1, none⟩ = some (.int .i64 E') := tr4.cell (i := 1) (by decide)
        have y2 : w4.cell? ⟨tb, 2, none⟩ = some (.pointer none) := tr4.cell (i := 2) (by decide)
        have bel4 : Below w.heap.size w w4 := Below.more (Below.more (Below.more I.out.bel (grown_drew wr none) (by simp)) G2.out (by simp)) g4 (by rintro b' ⟨⟩; exact I.out.lt)
        obtain ⟨f, hf, hv⟩ := ((I.out.row.kept (grown_drew wr none) (by simp)).kept G2.out (by simp)).kept g4 (by simpa using fun e => I.out.ne e.symm)
        have F := hide hf
        have V := hide hv
        have T4 := hide tr4
        have B4 := hide bel4
        clear hf hv tr4 bel4 g4 hw4 x0 x1 x2 f0 f1 f2 c0 c1 c2 TR G2)
      all_goals (
        have hmul := mul_le i n 6 hin
        go_wp2_with (refine wpList_store_elem w4 g (n * 6) 34 f F.out rfl 34 _ _ rfl (i * 6) #[.string ⟨#[]⟩, .int .u64 W', .int .i64 E', .pointer none, .int .i64 (i : Int), .int .i64 0] rfl rfl (by simpa using hmul) size34 (by simp [Value.oneCell']) ?_; intro w5 g5 r5; have R5 := hide (Rowed.put (w := w4) f V.out #[.string ⟨#[]⟩, .int .u64 W', .int .i64 E', .pointer none, .int .i64 (i : Int), .int .i64 0] rfl (by decide) W' E' rfl rfl rfl rfl r5); have T5 := hide (row_kept T4.out g5 (by simpa using I.out.ne)); have B5 := hide (Below.more B4.out g5 (by rintro b' ⟨⟩; exact I.out.lg)); clear g5 r5)
        go_roundw
        case rel => exact ⟨i + 1, _, _, W', E', by omega, by go_num, I.out.step (D i) W' E' dd0 dd1 ⟨p0, p1⟩ p2 B5.out R5.out T5.out⟩
        case measure => simp [intOf]; omega)
    · obtain rfl : i = n := by omega
      have I4 := hide I.out
      obtain ⟨Z2, hZ2, hmk2⟩ := make_run 35 38 10 96 Yba.underlying35 made38 (by decide) wr (len2 + 1) (by omega)
      rw [Int.natCast_add, Int.natCast_one] at hmk2
      go_upto_region 11 with fail
      obtain ⟨w6, hw6⟩ : ∃ w6, w6 = wr.alloc (Obj.cells Z2 38) := ⟨_, rfl⟩
      rw [← hw6]
      have g6 : wr.grownBy w6 none := hw6 ▸ World.grownBy_alloc wr _ none
      have c6 : Rowed w6 wr.heap.size 38 10 (len2 + 1) 0 (fun _ => 0) (fun _ => 0) := hw6 ▸ Rowed.made wr Z2 38 10 (len2 + 1) hZ2 _ _
      have lt6 := I.out.row.lt
      have le6 := I.out.bel.size
      have J6 := hide (show Inv2 w w6 g wr.heap.size i (len2 + 1) 0 W E (fun _ => 0) (fun _ => 0) from ⟨Below.more I.out.bel g6 (by simp), I.out.lg, le6, by omega, I.out.row.kept g6 (by simp), c6, by simp⟩)
      have HW := hide I.out.hw
      have HM := hide I.out.mono
      clear hmk2 hZ2 c6 g6 hw6 I
      generalize hgc : wr.heap.size = gc at *
      generalize i = n at *
      go_wp2_with fail
      go_loopw [15] (fun s15 wx => ∃ (i : Nat) (W2 E2 : Nat → Int), i ≤ len2 + 1 ∧ s15 = .int .i64 (i : Int) ∧ Inv2 w wx g gc n (len2 + 1) i W E W2 E2) (fun s15 _ => len2 + 1 - (intOf s15).toNat)
      case atStart => exact ⟨0, _, _, Nat.zero_le _, rfl, J6.out⟩
      case round =>
        obtain ⟨i, W2, E2, hi2, rfl, hinv⟩ := hrel
        have J := hide hinv
        clear hinv J6
        by_cases hin : i < len2 + 1
        · as_aux_lemma =>
          obtain ⟨f, hf, hv⟩ := J.out.crow
          have hmul := mul_le i (len2 + 1) 10 hin
          have V := hide hv
          clear hv
          by_cases hil : i < len2
          · obtain ⟨b, off, rfl, hc0⟩ := S2.out i hil
            have hcd := below_cell J.out.bel hc0
            obtain ⟨cc0, cc1⟩ := HC.out i
            have hwc : IntKind.i64.wrap (C i) = C i := by rw [IntKind.wrap_i64]; omega
            go_wp2_with (first | (go_at_call 4; refine (add_any 0 0 (C i) _ (by omega) (by omega) (by omega) (by omega) (by omega) (by omega)).mono ?_; rintro e w' ⟨W', E', rfl, p0, p1, p2, g2⟩; have F := hide (row_kept hf g2 (by simp)); have JJ := hide (J.out.later g2); clear g2 hf) | (refine wpList_store_elem w' gc ((len2 + 1) * 10) 38 f F.out rfl 38 _ _ rfl (i * 10) #[.string ⟨#[]⟩, .int .u64 W', .int .i64 E', .pointer none, .int .i64 (i : Int), .string ⟨#[]⟩, .bool false, .int .u64 0, .int .i64 0, .pointer none] rfl rfl (by simpa using hmul) size38 (by simp [Value.oneCell']) ?_; intro w5 g5 r5; have R5 := hide (Rowed.put (w := w') f V.out #[.string ⟨#[]⟩, .int .u64 W', .int .i64 E', .pointer none, .int .i64 (i : Int), .string ⟨#[]⟩, .bool false, .int .u64 0, .int .i64 0, .pointer none] rfl (by decide) W' E' rfl rfl rfl rfl r5); have J5 := hide (JJ.out.step W' E' ⟨p0, p1⟩ g5 R5.out); clear g5 r5))
            go_roundw
            case rel => exact ⟨i + 1, _, _, by omega, by go_num, J5.out⟩
            case measure => simp [intOf]; omega
          · go_wp2_with (first | (go_at_call 4; refine (add_any 0 0 0 _ (by omega) (by omega) (by omega) (by omega) (by omega) (by omega)).mono ?_; rintro e w' ⟨W', E', rfl, p0, p1, p2, g2⟩; have F := hide (row_kept hf g2 (by simp)); have JJ := hide (J.out.later g2); clear g2 hf) | (refine wpList_store_elem w' gc ((len2 + 1) * 10) 38 f F.out rfl 38 _ _ rfl (i * 10) #[.string ⟨#[]⟩, .int .u64 W', .int .i64 E', .pointer none, .int .i64 (i : Int), .string ⟨#[]⟩, .bool false, .int .u64 0, .int .i64 0, .pointer none] rfl rfl (by simpa using hmul) size38 (by simp [Value.oneCell']) ?_; intro w5 g5 r5; have R5 := hide (Rowed.put (w := w') f V.out #[.string ⟨#[]⟩, .int .u64 W', .int .i64 E', .pointer none, .int .i64 (i : Int), .string ⟨#[]⟩, .bool false, .int .u64 0, .int .i64 0, .pointer none] rfl (by decide) W' E' rfl rfl rfl rfl r5); have J5 := hide (JJ.out.step W' E' ⟨p0, p1⟩ g5 R5.out); clear g5 r5))
            go_roundw
            case rel => exact ⟨i + 1, _, _, by omega, by go_num, J5.out⟩
            case measure => simp [intOf]; omega
        · obtain rfl : i = len2 + 1 := by omega
          clear I4 S1 S2 HD HC
          go_upto_region 19 with fail
          obtain ⟨k, hk⟩ : ∃ k : Nat, kx % ((len2 : Int) + 1) = (k : Int) := ⟨(kx % ((len2 : Int) + 1)).toNat, by have := Int.emod_nonneg kx (show (len2 : Int) + 1 ≠ 0 by omega); omega⟩
          have hkm : k < len2 + 1 := by have := Int.emod_lt_of_pos kx (show (0 : Int) < (len2 : Int) + 1 by omega); omega
          rw [hk]
          clear hk
          go_upto_region 20 with fail
          obtain ⟨w7, hw7⟩ : ∃ w7, w7 = wr.alloc (Obj.cells #[Value.string { data := #[97] }, Value.string { data := #[] }, Value.slice none 0 0, Value.string { data := #[] }, Value.string { data := #[] }, Value.int IntKind.u64 0, Value.int IntKind.i64 0, Value.pointer none, Value.int IntKind.u64 0, Value.int IntKind.i64 0, Value.pointer none] 42) := ⟨_, rfl⟩
          rw [← hw7]
          have J7 := hide (J.out.later (hw7 ▸ World.grownBy_alloc wr _ none : wr.grownBy w7 none))
          clear hw7
          generalize hpg : wr.heap.size = pg
          clear hpg
          have hmm := run_makeMap (P := Yba.prog) 44 w7
          have hmp := map_put (new_block w7 (.map #[] 0))
          go_upto_region 21 with fail
          obtain ⟨w8, hw8⟩ : ∃ w8, w8 = ChangeMaps.setBlock (w7.alloc (.map #[] 0)) w7.heap.size (.map oneEntry 1) := ⟨_, rfl⟩
          rw [← hw8]
          have g8 : w7.grownBy w8 none := by
            have := grown_new (hw8 ▸ grown_setBlock (w7.alloc (.map #[] 0)) w7.heap.size (.map oneEntry 1) : (w7.alloc (.map #[] 0)).grownBy w8 (some w7.heap.size)) (by simp)
            exact this.1
          have m8 : w8.heap[w7.heap.size]? = some (.map oneEntry 1) := hw8 ▸ setBlock_same (new_block w7 (.map #[] 0))
          have J8 := hide (J7.out.later g8)
          have M8 := hide m8
          clear hw8 g8 m8 hmm hmp
          generalize w7.heap.size = ob at *
          go_upto_region 22 with fail
          obtain ⟨w9, hw9⟩ : ∃ w9, w9 = w8.alloc (Obj.cells #[.string dir, .slice (some ⟨pg, 0, none⟩) 1 1, .slice (some ⟨g, 0, none⟩) n n, .slice (some ⟨gc, 0, none⟩) (len2 + 1) (len2 + 1), .slice none 0 0, .string ⟨#[]⟩, .int .u64 0, .int .i64 0, .pointer none, .int .i64 0, .slice none 0 0, .slice none 0 0, .slice none 0 0, .slice none 0 0, .slice none 0 0, .slice none 0 0, .map none, .map (some ob)] 61) := ⟨_, rfl⟩
          rw [← hw9]
          have hw9' : w9 = w8.alloc (Obj.cells (regCells dir pg g n gc (len2 + 1) ob).toArray 61) := hw9
          have g9 : w8.grownBy w9 none := hw9' ▸ World.grownBy_alloc w8 _ none
          have r9 : w9.rangeAt w8.heap.size 0 (regCells dir pg g n gc (len2 + 1) ob) := hw9' ▸ range_new w8 _ 61
          have o9 : w9.heap[w8.heap.size]? = some (Obj.cells (regCells dir pg g n gc (len2 + 1) ob).toArray 61 (0, 0)) := hw9' ▸ new_block w8 _
          have O9 := hide o9
          clear o9
          have J9 := hide (J8.out.later g9)
          have M9 := hide (block_kept g9 M8.out)
          have R9 := hide r9
          clear hw9 hw9' g9 r9 J8 M8 J7 J
          generalize w8.heap.size = rb at *
          go_wp2_with fail
          obtain ⟨wA, hwA⟩ : ∃ wA, wA = w9.alloc (Obj.cells #[.slice (some ⟨gc, 0, none⟩) (len2 + 1) (len2 + 1), .slice none 0 0, .slice (some ⟨g, 0, none⟩) n n, .pointer (some ⟨rb, 0, none⟩)] 64) := ⟨_, rfl⟩
          rw [← hwA]
          have gA : w9.grownBy wA none := hwA ▸ World.grownBy_alloc w9 _ none
          have JA := hide (J9.out.later gA)
          have MA := hide (block_kept gA M9.out)
          have RA := hide (show wA.rangeAt rb 0 (regCells dir pg g n gc (len2 + 1) ob) from fun j v hv => kept gA (R9.out j v hv))
          have OA := hide (block_kept gA O9.out)
          clear hwA gA J9 M9 R9 O9
          obtain ⟨c, hcn, lo, hi⟩ := boundary (fun j => W j + 1000000000 * E j) (W2 k + 1000000000 * E2 k) n HM.out
          have LO := hide lo
          have HI := hide hi
          clear lo hi
          have dk := JA.out.crow.at (by decide) hkm (Nat.le_refl _)
          have wk := JA.out.hw k hkm
          refine (past_any rb g gc n (len2 + 1) c k W E (W2 k) (E2 k) pg ob dir wA hcn hn (by omega) hkm RA.out (fun i hi => by have := JA.out.row.at (by decide) hi (Nat.le_refl _); exact ⟨this.1, this.2.1, this.2.2.1⟩) dk.1 dk.2.1 dk.2.2.1 HW.out wk.1 wk.2 LO.out HI.out).mono ?_
          rintro e wB ⟨pb, rfl, lpb, gB, z0, z1, z2, z3, z17, cs, oB⟩
          have JB := hide (JA.out.later gB)
          have MB := hide (block_kept gB MA.out)
          have y0 : wB.cell? ⟨rb, 0, none⟩ = some (.string dir) := kept gB (RA.out 0 _ rfl)
          have y2 : wB.cell? ⟨rb, 2, none⟩ = some (.slice (some ⟨g, 0, none⟩) n n) := kept gB (RA.out 2 _ rfl)
          have y3 : wB.cell? ⟨rb, 3, none⟩ = some (.slice (some ⟨gc, 0, none⟩) (len2 + 1) (len2 + 1)) := kept gB (RA.out 3 _ rfl)
          have lrb : rb < wA.heap.size := cell_lt (RA.out 0 _ rfl)
          have hpr : pb ≠ rb := by omega
          obtain ⟨j61, hj61⟩ := Option.isSome_iff_exists.1 info61
          have s61 : j61.size ≠ 0 := by have := size61; rw [hj61] at this; simp at this; omega
          have qe : (binOp .eql 45 (.pointer (some ⟨pb, 0, none⟩)) (.pointer (some ⟨rb, 0, none⟩))).run Yba.prog wB = .ok (.bool false) wB :=
            run_eql_ptr_other wB Yba.underlying45 hj61 s61 (fun e => hpr (congrArg Addr.block e)) oB (block_kept gB OA.out)
          clear gB RA MA JA dk oB hj61 s61 OA
          obtain ⟨j38, hj38⟩ := Option.isSome_iff_exists.1 info38
          obtain ⟨j34, hj34⟩ := Option.isSome_iff_exists.1 info34
          obtain ⟨j42, hj42⟩ := Option.isSome_iff_exists.1 info42
          have q66 : ∀ (w : World) (a : Addr), (binOp .neq 66 (.pointer (some a)) (.pointer (some a))).run Yba.prog w = .ok (.bool false) w := fun w a => Lib.run_neq_ptr_same w a Yba.underlying66 hj38
          have q68 : ∀ (w : World) (a : Addr), (binOp .neq 68 (.pointer (some a)) (.pointer (some a))).run Yba.prog w = .ok (.bool false) w := fun w a => Lib.run_neq_ptr_same w a Yba.underlying68 hj34
          have q69 : ∀ (w : World) (a : Addr), (binOp .neq 69 (.pointer (some a)) (.pointer (some a))).run Yba.prog w = .ok (.bool false) w := fun w a => Lib.run_neq_ptr_same w a Yba.underlying69 hj42
          clear hj38 hj34 hj42
          have lpb' := cell_lt z0
          have lrb' := cell_lt y0
          go_upto_region 28 with fail
          have b00 : (0 : Int) < (len2 : Int) + 1 := by omega
          go_cut [145] (fun s145 wx => s145 = .bool false ∧ wB.grownBy wx none)
          case first => as_aux_lemma =>
            cases hkd : decide ((0 : Int) < (k : Int)) with
            | true =>
              have b01 : (0 : Int) < (k : Int) := of_decide_eq_true hkd
              have hkd2 : decide (0 < k) = true := decide_eq_true (by omega)
              have b02 : 0 < k := by omega
              go_quiet (fail)
              go_wp2_with fail
              go_meet
              case rel => exact ⟨rfl, ⟨rfl, rfl, rfl, Nat.le_refl _, fun _ _ _ => rfl⟩⟩
            | false =>
              have hkd2 : decide (0 < k) = false := decide_eq_false (by have := of_decide_eq_false hkd; omega)
              go_quiet (fail)
              go_wp2_with fail
              go_meet
              case rel => exact ⟨rfl, ⟨rfl, rfl, rfl, Nat.le_refl _, fun _ _ _ => rfl⟩⟩
          case rest =>
            obtain ⟨rfl, gC⟩ := hcut
            have JC := hide (JB.out.later gC)
            have MC := hide (block_kept gC MB.out)
            have Z0 := hide (kept gC z0)
            have Z1 := hide (kept gC z1)
            have Z2 := hide (kept gC z2)
            have Z3 := hide (kept gC z3)
            have Z17 := hide (kept gC z17)
            have Y0 := hide (kept gC y0)
            have Y2 := hide (kept gC y2)
            have Y3 := hide (kept gC y3)
            clear gC z0 z1 z2 z3 z17 y0 y2 y3 qe JB MB
            obtain ⟨dk0, dk1, dk2, dk3⟩ := JC.out.crow.at (by decide) hkm (Nat.le_refl _)
            have bk0 : (0 : Int) ≤ (k : Int) := by omega
            have bk1 : (k : Int) < (len2 : Int) + 1 := by omega
            have lgc := cell_lt dk0
            go_upto_block 4 with fail
            obtain ⟨wD, hwD⟩ : ∃ wD, wD = wc.alloc (Obj.cells #[Value.int IntKind.u64 (W2 k), Value.int IntKind.i64 (E2 k), Value.pointer none] 30) := ⟨_, rfl⟩
            rw [← hwD]
            have gD : wc.grownBy wD none := hwD ▸ World.grownBy_alloc wc _ none
            have e0 : wD.cell? ⟨wc.heap.size, 0, none⟩ = some (.int .u64 (W2 k)) := by rw [hwD]; go_simp
            have e1 : wD.cell? ⟨wc.heap.size, 1, none⟩ = some (.int .i64 (E2 k)) := by rw [hwD]; go_simp
            have e2 : wD.cell? ⟨wc.heap.size, 2, none⟩ = some (.pointer none) := by rw [hwD]; go_simp
            have GD := hide gD
            clear hwD gD dk0 dk1 dk2 dk3
            generalize wc.heap.size = db at *
            go_cut [24] (fun s24 wx => s24 = .int .i64 (c : Int) ∧ wD.grownBy wx none)
            case first => as_aux_lemma =>
              go_wp2_with fail
              go_loopw [24] (fun s24 wx => ∃ i : Nat, i ≤ c ∧ s24 = .int .i64 (i : Int) ∧ wD.grownBy wx none) (fun s24 _ => c - (intOf s24).toNat)
              case atStart => exact ⟨0, Nat.zero_le _, rfl, World.grownBy.refl _ _⟩
              case round =>
                obtain ⟨i, hic, rfl, gX⟩ := hrel
                have ce0 := kept gX e0
                have ce1 := kept gX e1
                have ce2 := kept gX e2
                have GX := hide gX
                clear gX
                by_cases hin3 : i < n
                · have ht : decide ((i : Int) < (n : Int)) = true := by simp; omega
                  have bi1 : (i : Int) < (n : Int) := by omega
                  have bi0 : (0 : Int) ≤ (i : Int) := by omega
                  obtain ⟨a0, a1', a2', _⟩ := (JC.out.row.kept (grown_trans GD.out GX.out) (by simp)).at (by decide) hin3 (Nat.le_refl _)
                  have hwi := HW.out i hin3
                  by_cases hic2 : i < c
                  · have hT : decide (W i + 1000000000 * E i < W2 k + 1000000000 * E2 k) = true := decide_eq_true (LO.out i hic2)
                    go_wp2_with fail
                    go_region_held3 (fun w' => w'.cell? ⟨g, i * 6 + 1, none⟩ = some (.int .u64 (W i)) ∧ w'.cell? ⟨g, i * 6 + 2, none⟩ = some (.int .i64 (E i)) ∧ w'.cell? ⟨g, i * 6 + 3, none⟩ = some (.pointer none) ∧ w'.cell? ⟨db, 0, none⟩ = some (.int .u64 (W2 k)) ∧ w'.cell? ⟨db, 1, none⟩ = some (.int .i64 (E2 k)) ∧ w'.cell? ⟨db, 2, none⟩ = some (.pointer none)) (first | (go_keep; done) | (go_split_ands; exact ⟨kept hgrow (by assumption), kept hgrow (by assumption), kept hgrow (by assumption), kept hgrow (by assumption), kept hgrow (by assumption), kept hgrow (by assumption)⟩)) (first | (go_at_call 6; refine (before_any (W i) (E i) (W2 k) (E2 k) _ hwi.1 hwi.2 wk.1 wk.2).mono ?_; rintro e w' ⟨he, hgrow⟩; rw [hT] at he; subst he))
                    go_wp2_with fail
                    go_roundw
                    case rel => exact ⟨i + 1, by omega, by go_num, grown_trans GX.out (grown_trans (grown_drew _ none) hgrow)⟩
                    case measure => simp [intOf]; omega
                  · have hT : decide (W i + 1000000000 * E i < W2 k + 1000000000 * E2 k) = false := decide_eq_false (by have := HI.out i (by omega) hin3; simpa using this)
                    obtain rfl : i = c := by omega
                    go_wp2_with fail
                    go_region_held3 (fun w' => w'.cell? ⟨g, i * 6 + 1, none⟩ = some (.int .u64 (W i)) ∧ w'.cell? ⟨g, i * 6 + 2, none⟩ = some (.int .i64 (E i)) ∧ w'.cell? ⟨g, i * 6 + 3, none⟩ = some (.pointer none) ∧ w'.cell? ⟨db, 0, none⟩ = some (.int .u64 (W2 k)) ∧ w'.cell? ⟨db, 1, none⟩ = some (.int .i64 (E2 k)) ∧ w'.cell? ⟨db, 2, none⟩ = some (.pointer none)) (first | (go_keep; done) | (go_split_ands; exact ⟨kept hgrow (by assumption), kept hgrow (by assumption), kept hgrow (by assumption), kept hgrow (by assumption), kept hgrow (by assumption), kept hgrow (by assumption)⟩)) (first | (go_at_call 6; refine (before_any (W i) (E i) (W2 k) (E2 k) _ hwi.1 hwi.2 wk.1 wk.2).mono ?_; rintro e w' ⟨he, hgrow⟩; rw [hT] at he; subst he))
                    go_wp2_with fail
                    go_meet
                    case rel => exact ⟨rfl, grown_trans GX.out (grown_trans (grown_drew _ none) hgrow)⟩
                · obtain rfl : i = c := by omega
                  have ht : decide ((i : Int) < (n : Int)) = false := by simp; omega
                  have ht2 : decide (i < n) = false := decide_eq_false hin3
                  go_wp2_with fail
                  go_quiet (fail)
                  go_wp2_with fail
                  go_meet
                  case rel => exact ⟨rfl, grown_trans GX.out ⟨rfl, rfl, rfl, Nat.le_refl _, fun _ _ _ => rfl⟩⟩
            case rest =>
              obtain ⟨rfl, gE⟩ := hcut
              have gE2 := grown_trans GD.out gE
              have JE := hide (JC.out.later gE2)
              have ME := hide (block_kept gE2 MC.out)
              have z0 := kept gE2 Z0.out
              have z1 := kept gE2 Z1.out
              have z2 := kept gE2 Z2.out
              have z17 := kept gE2 Z17.out
              have y0 := kept gE2 Y0.out
              have y2 := kept gE2 Y2.out
              have y3 := kept gE2 Y3.out
              clear gE gE2 Z0 Z1 Z2 Z3 Z17 Y0 Y2 Y3 JC MC GD e0 e1 e2
              go_upto_region 36 with fail
              go_cut [193] (fun s193 wx => s193 = .bool false ∧ wc.grownBy wx none)
              case first => as_aux_lemma =>
                cases hcd : decide ((0 : Int) < (c : Int)) with
                | true =>
                  have b01 : (0 : Int) < (c : Int) := of_decide_eq_true hcd
                  have hcd2 : decide (0 < c) = true := decide_eq_true (by omega)
                  have b02 : 0 < c := by omega
                  have b03 : (0 : Int) < (n : Int) := by omega
                  have b04 : 0 < n := by omega
                  go_quiet (fail)
                  go_wp2_with fail
                  go_meet
                  case rel => exact ⟨rfl, ⟨rfl, rfl, rfl, Nat.le_refl _, fun _ _ _ => rfl⟩⟩
                | false =>
                  have hcd2 : decide (0 < c) = false := decide_eq_false (by have := of_decide_eq_false hcd; omega)
                  go_quiet (fail)
                  go_wp2_with fail
                  go_meet
                  case rel => exact ⟨rfl, ⟨rfl, rfl, rfl, Nat.le_refl _, fun _ _ _ => rfl⟩⟩
              case rest =>
                obtain ⟨rfl, gF⟩ := hcut
                have JF := hide (JE.out.later gF)
                have MF := hide (block_kept gF ME.out)
                have z0 := kept gF z0
                have z1 := kept gF z1
                have z17 := kept gF z17
                have y0 := kept gF y0
                have y2 := kept gF y2
                have y3 := kept gF y3
                clear gF JE ME
                go_upto_region 38 with fail
                go_cut [217] (fun s217 wx => s217 = .bool false ∧ wc.grownBy wx none)
                case first => as_aux_lemma =>
                  go_quiet (fail)
                  go_wp2_with fail
                  go_meet
                  case rel => exact ⟨rfl, ⟨rfl, rfl, rfl, Nat.le_refl _, fun _ _ _ => rfl⟩⟩
                case rest =>
                  obtain ⟨rfl, gH⟩ := hcut
                  have JH := hide (JF.out.later gH)
                  have MH := hide (block_kept gH MF.out)
                  have z17 := kept gH z17
                  have y0 := kept gH y0
                  have y2 := kept gH y2
                  have y3 := kept gH y3
                  have hml := map_len MH.out
                  have hmg := map_get MH.out
                  clear gH JF MF
                  go_wp2_with fail
                  have BH := hide JH.out.bel
                  go_loopw [25] (fun s25 wx => ∃ i : Nat, i ≤ len2 + 1 ∧ s25 = .int .i64 (i : Int) ∧ wc = wx) (fun s25 _ => len2 + 1 - (intOf s25).toNat)
                  case atStart => exact ⟨0, Nat.zero_le _, rfl, rfl⟩
                  case round =>
                    obtain ⟨i, hi4, rfl, rfl⟩ := hrel
                    clear hml hmg z17 y0 y2 y3 q66 q68 q69
                    by_cases hin4 : i < len2 + 1
                    · obtain ⟨_, _, _, v4⟩ := JH.out.crow.at (by decide) hin4 (Nat.le_refl _)
                      have bi0 : (0 : Int) ≤ (i : Int) := by omega
                      have bi1 : (i : Int) < (len2 : Int) + 1 := by omega
                      go_wp2_with fail
                      go_roundw
                      case rel => exact ⟨i + 1, by omega, by go_num, by trivial⟩
                      case measure => simp [intOf]; omega
                    · obtain rfl : i = len2 + 1 := by omega
                      go_wp2_with fail
                      go_loopw [26] (fun s26 wx => ∃ i : Nat, i ≤ n ∧ s26 = .int .i64 (i : Int) ∧ wc = wx) (fun s26 _ => n - (intOf s26).toNat)
                      case atStart => exact ⟨0, Nat.zero_le _, rfl, rfl⟩
                      case round =>
                        obtain ⟨i, hi5, rfl, rfl⟩ := hrel
                        by_cases hin5 : i < n
                        · obtain ⟨_, _, _, v4⟩ := JH.out.row.at (by decide) hin5 (Nat.le_refl _)
                          have bi0 : (0 : Int) ≤ (i : Int) := by omega
                          have bi1 : (i : Int) < (n : Int) := by omega
                          go_wp2_with fail
                          go_roundw
                          case rel => exact ⟨i + 1, by omega, by go_num, by trivial⟩
                          case measure => simp [intOf]; omega
                        · go_wp2_with fail
                          go_ret
                          exact ⟨rfl, BH.out⟩

end Go.Proofs.Ybulkbibm.Time

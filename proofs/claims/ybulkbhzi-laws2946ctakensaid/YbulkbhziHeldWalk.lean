import Derived.Test.YbulkbhziRows
import Derived.Test.YbulkbhziHeldParts
import Derived.WalkKit
import Derived.ProofKit
import Derived.OpenShut
import Derived.ShutString
import Derived.ChangeOld
import Derived.Below
import Derived.WalkSpells
import Derived.WalkLawsBesides
import Derived.Deep.QuietTactic
import Derived.BigQuiet
import Derived.Lib.Builder
import Derived.WalkSmall
namespace Go.Proofs.Ybulkbhzi.lawS2946CHeld
open Go.ChangeShapes Go.WideShapes Go.ChangeAt Go.RowKit Go.Proofs.Ybulkbhzi.HeldParts
open Go.ChangeMaps (open_string shut_string)
set_option linter.unusedVariables false

theorem info64 : (Yba.prog.info? 64).map (fun i => (i.zero, i.size, i.bytes)) = some (some (.slice none 0 0), 1, 24) := by kernel_rfl
theorem info67 : (Yba.prog.info? 67).map (fun i => (i.zero, i.size, i.bytes)) = some (some (.pointer none), 1, 8) := by kernel_rfl

theorem info75 : (Yba.prog.info? 75).isSome = true := by kernel_rfl

def nn (z0 : List Int) (k : Nat) : Nat := (z0.getD k 0 % 8).toNat

theorem held_in (B k gv cv g : Nat) (u : Value) (w : World) (hB : w.cell? ⟨B, 0, none⟩ = some (.slice (some ⟨gv, 0, none⟩) k cv)) (hk : k ≤ cv) (hcv : cv ≤ 2 ^ 63 - 1) (hg : g < k) (hu : w.cell? ⟨gv, g, none⟩ = some u) :
    Calls Yba.prog 8 #[.pointer (some ⟨B, 0, none⟩), .int .i64 (g : Int)] w fun e w' => e = .returned u ∧ w = w' := by
  go_enter Yba.func8, Yba.ntmps8
  go_wp2
  go_ret
  exact ⟨rfl, rfl⟩

theorem held_out (B k cv : Nat) (g : Int) (av : Option Addr) (w : World) (hB : w.cell? ⟨B, 0, none⟩ = some (.slice av k cv)) (hg : ¬ g < k) :
    Calls Yba.prog 8 #[.pointer (some ⟨B, 0, none⟩), .int .i64 g] w fun e w' => e = .returned (.slice none 0 0) ∧ w = w' := by
  go_enter Yba.func8, Yba.ntmps8
  go_wp2
  go_ret
  exact ⟨rfl, rfl⟩

set_option maxRecDepth 100000 in
set_option maxHeartbeats 1000000 in
theorem walk_some (b off len0 cap0 : Nat) (z0 : List Int) (a1 : Int) (w : World) (hlen : len0 ≤ 1024) (hlc : len0 ≤ cap0) (hcap : cap0 ≤ maxLen) (hz : z0.length = cap0)
    (hc : ∀ i, i < z0.length → w.cell? ⟨b, off + i, none⟩ = some (.int .u8 (z0.getD i 0))) (hw : ∀ n ∈ z0, (Lit.int .u8 n).wf = true) (ha : 0 ≤ a1) (ha' : a1 ≤ 65535) (hb : b < w.heap.size) :
    Calls Yba.prog 4 #[.slice (some ⟨b, off, none⟩) len0 cap0, .int .u16 a1] w fun e w' => e = .returned (.bool true) ∧ Below w.heap.size w w' := by
  unfold maxLen at hcap
  have hrange := range_u8 hw
  obtain ⟨i64, hi64, hz64, hs64, hb64⟩ := info_parts info64
  obtain ⟨i67, hi67, hz67, hs67, hb67⟩ := info_parts info67
  have hd : decide (1024 < (len0 : Int)) = false := by simp; omega
  have qe : ∀ (w : World) (a : Option Addr) (n c n' c' : Nat), (binOp .eql 64 (.slice a n c) (.slice none n' c')).run Yba.prog w = .ok (.bool a.isNone) w := fun w a n c n' c' => Lib.run_eql_slice_nil w _ _ a n c n' c' Yba.underlying64
  have qn : ∀ (w : World) (a : Option Addr) (n c n' c' : Nat), (binOp .neq 64 (.slice a n c) (.slice none n' c')).run Yba.prog w = .ok (.bool (!a.isNone)) w := fun w a n c n' c' => run_neq_slice_nil_any w _ _ a n c n' c' Yba.underlying64
  obtain ⟨i75, hi75⟩ := Option.isSome_iff_exists.1 info75
  have qp : ∀ (w : World) (a : Addr), (binOp .neq 67 (.pointer (some a)) (.pointer (some a))).run Yba.prog w = .ok (.bool false) w := fun w a => Lib.run_neq_ptr_same w a Yba.underlying67 hi75
  clear hi75
  go_enter Yba.func4, Yba.ntmps4
  go_wp2
  go_loopw [7] (fun i wr => ∃ (k : Nat) (v : Value) (vs : List Value), k ≤ len0 ∧ i = .int .i64 k ∧ OR w (nn z0) k wr v vs) (fun i _ => len0 - (intOf i).toNat)
  case atStart => exact ⟨0, _, _, Nat.zero_le _, rfl, OR.start w _⟩
  case round =>
    obtain ⟨k, v, vs, hk, rfl, hor⟩ := hrel
    have HOR : Hid (OR w (nn z0) k wr v vs) := hor
    clear hor
    by_cases hkl : k < len0
    · have hcell : wr.cell? ⟨b, off + k, none⟩ = some (.int .u8 (z0.getD k 0)) := (HOR.out.below.cell (by exact hb)).trans (hc k (by omega))
      have hr := hrange k
      obtain ⟨wo, hwo⟩ : ∃ wo, wo = wr := ⟨_, rfl⟩
      subst hwo
      go_wp2
      obtain ⟨n, hn⟩ : ∃ n : Nat, z0[k]?.getD 0 % 8 = (n : Int) := ⟨(z0[k]?.getD 0 % 8).toNat, by omega⟩
      have hn8 : n < 8 := by omega
      rw [hn]
      have HN : Hid (z0[k]?.getD 0 % 8 = (n : Int)) := hn
      clear hn
      have hsz : w.heap.size < wo.heap.size := lt_of_block HOR.out.blk
      go_loopw [9, 10] (fun hs j wi => ∃ (m : Nat) (ps : List Nat) (ao : Option Addr) (cp : Nat), m ≤ n ∧ j = .int .i64 m ∧ hs = .slice ao m cp ∧ RowAt wi wo.heap.size (k : Int) m (.slice ao m cp) ps ∧ Below wo.heap.size wo wi) (fun _ j _ => n - (intOf j).toNat)
      case atStart => exact ⟨0, [], none, 0, Nat.zero_le _, rfl, rfl, RowAt.nil _ _ _, Below.refl _ _⟩
      case round =>
        obtain ⟨m, ps, ao, cp, hm, rfl, rfl, hrow, hbel⟩ := hrel
        have HROW : Hid (RowAt wr wo.heap.size (k : Int) m (.slice ao m cp) ps) := hrow
        have HBEL : Hid (Below wo.heap.size wo wr) := hbel
        clear hrow hbel
        by_cases hml : m < n
        · go_wp2_with (at_builtin; refine wpList_append_own _ rfl _ _ 64 rfl wo.heap.size 67 i67 (.pointer none) 1 8 Yba.underlying64 hi67 hz67 hs67 hb67 rfl (by decide) _ _ _ rfl ((HROW.out.1.alloc _).alloc _) ⟨wr.heap.size + 1, 0, none⟩ 1 1 [ptr wr.heap.size] rfl rfl ?c1 ?c2 ?c3 ?c4 ?c5 ?_)
          case c1 => exact cell_new2 _ _ _ _
          case c2 => intro u hu; simp at hu; subst hu; rfl
          case c3 => unfold maxLen; omega
          case c4 => omega
          case c5 => have := HBEL.out.size; simp; omega
          intro v' w1 hown' hgrow _
          have R := HROW.out.push (i := (k : Int)) (by rfl) (by rfl) hown' hgrow
          have Rb : Below wo.heap.size wo w1 := Below.grown ((HBEL.out.alloc HBEL.out.size _).alloc (by have := HBEL.out.size; simp; omega) _) hgrow (by have := HBEL.out.size; simp; omega) fun g hg => (HROW.out.1.lt g hg).1
          obtain ⟨ao', cp', rfl, _⟩ := ownsRow_form R.1
          have HR : Hid (RowAt w1 wo.heap.size (k : Int) (m + 1) (.slice ao' (m + 1) cp') (ps ++ [wr.heap.size])) := R
          have HRb : Hid (Below wo.heap.size wo w1) := Rb
          clear R Rb hgrow hown'
          go_wp2
          go_roundw
          case rel => exact ⟨m + 1, _, ao', cp', by omega, by go_num, rfl, HR.out, HRb.out⟩
          case measure => simp [intOf]; omega
        · obtain rfl : m = n := by omega
          have hor := HOR.out.later HBEL.out
          have hcB := four_cell hor.blk
          have hfB := four_free hor.blk 0
          have HOI : Hid (OR w (nn z0) k wr v vs) := hor
          clear hor
          obtain ⟨av, cv, rfl, _⟩ := ownsRow_form HOI.out.own
          go_wp2_with (at_builtin; refine wpList_append_own _ rfl _ _ 61 rfl (w.heap.size + 1) 64 i64 (.slice none 0 0) 1 24 Yba.underlying61 hi64 hz64 hs64 hb64 rfl (by decide) _ _ _ rfl (HOI.out.own.alloc _) ⟨wr.heap.size, 0, none⟩ 1 1 [.slice ao m cp] rfl rfl ?d1 ?d2 ?d3 ?d4 ?d5 ?_)
          case d1 => exact cell_one_new _ _ _
          case d2 => intro u hu; simp at hu; subst hu; rfl
          case d3 => unfold maxLen; omega
          case d4 => omega
          case d5 => have := HBEL.out.size; simp; omega
          intro v' w1 hown' hgrow _
          have hnk : nn z0 k = m := by unfold nn; rw [List.getD_eq_getElem?_getD, HN.out]; simp
          have hb2 := HOI.out.blk2 hgrow
          have hc2 := four_cell hb2
          have hf2 := four_free hb2 0
          clear hb2
          have hrow1 : RowAt wr (w.heap.size + 1) (k : Int) (nn z0 k) (.slice ao m cp) ps := by rw [hnk]; exact HROW.out.mono (by omega)
          have R := HOI.out.push hrow1 hown' hgrow
          clear hrow1
          obtain ⟨av', cv', rfl, _⟩ := ownsRow_form hown'
          have HR : Hid (OR w (nn z0) (k + 1) (w1.setCell ⟨w.heap.size, 0, none⟩ (.slice av' (k + 1) cv')) (.slice av' (k + 1) cv') (vs ++ [.slice ao m cp])) := R
          clear R hgrow hown' hnk hcB hfB
          go_wp2
          go_roundw
          case rel => exact ⟨k + 1, _, _, by omega, by go_num, HR.out⟩
          case measure => simp [intOf]; omega
    · obtain rfl : k = len0 := by omega
      have hcB := four_cell HOR.out.blk
      by_cases hg : a1 < k
      · obtain ⟨g, rfl⟩ := Int.eq_ofNat_of_zero_le ha
        obtain ⟨gv, cv, ao, cp, ps, rfl, hcg, hkc, hcm, hnc, hcpm, hrow⟩ := HOR.out.at (g := g) (by omega)
        have hcell : wr.cell? ⟨b, off + g, none⟩ = some (.int .u8 (z0.getD g 0)) := (HOR.out.below.cell (by exact hb)).trans (hc g (by omega))
        have hr := hrange g
        obtain ⟨n, hn⟩ : ∃ n : Nat, z0[g]?.getD 0 % 8 = (n : Int) := ⟨(z0[g]?.getD 0 % 8).toNat, by omega⟩
        have hn8 : n < 8 := by omega
        have hnk : nn z0 g = n := by unfold nn; rw [List.getD_eq_getElem?_getD, hn]; simp
        rw [hnk] at hrow hcg hnc
        have HROW : Hid (RowAt wr (w.heap.size + 1) (g : Int) n (.slice ao n cp) ps) := hrow
        clear hrow hnk
        unfold maxLen at hcm hcpm
        by_cases hn0 : n = 0
        · subst hn0
          have := HROW.out.2.1 rfl
          simp only [Value.slice.injEq] at this
          obtain ⟨rfl, _, rfl⟩ := this
          go_wp2_with (go_at_call 8; refine (held_in _ _ _ _ _ _ _ hcB hkc hcm (by omega) hcg).mono ?_; rintro e w' ⟨rfl, rfl⟩)
          refine wp_loop_rounds 1 ?_
          rw [rounds_succ]
          go_wp2
          go_ret
          exact ⟨rfl, HOR.out.below⟩
        · have hq0 : ((n : Int) == 0) = false := by simp; omega
          obtain ⟨gr, p0, rfl, _⟩ := HROW.out.at (j := 0) (by omega)
          go_wp2_with (go_at_call 8; refine (held_in _ _ _ _ _ _ _ hcB hkc hcm (by omega) hcg).mono ?_; rintro e w' ⟨rfl, rfl⟩)
          obtain ⟨wf, hwf⟩ : ∃ wf, wf = wr := ⟨_, rfl⟩
          subst hwf
          go_loopw [13] (fun j wx => ∃ m q : Nat, m ≤ n ∧ j = .int .i64 m ∧ wx = wf.drewN q) (fun j _ => n - (intOf j).toNat)
          case atStart => exact ⟨0, 0, Nat.zero_le _, rfl, rfl⟩
          case round =>
            obtain ⟨m, q, hm, rfl, rfl⟩ := hrel
            by_cases hml : m < n
            · obtain ⟨gr', p, hgr, c1, c2, c3⟩ := HROW.out.at hml
              simp only [Option.some.injEq, Addr.mk.injEq] at hgr
              obtain ⟨rfl, _, _⟩ := hgr
              have hmi : (m : Int) < (n : Int) := by omega
              go_wp2_with fail
              go_quiet (fail)
              go_wp2
              go_roundw
              case rel => exact ⟨m + 1, q + nq, by omega, by go_num, rfl⟩
              case measure => simp [intOf]; omega
            · go_wp2
              go_ret
              exact ⟨rfl, below_drewN HOR.out.below _⟩
      · obtain ⟨av, cv, rfl, _⟩ := ownsRow_form HOR.out.own
        go_wp2_with (go_at_call 8; refine (held_out _ _ _ _ _ _ hcB (by omega)).mono ?_; rintro e w' ⟨rfl, rfl⟩)
        go_ret
        exact ⟨rfl, HOR.out.below⟩

set_option maxRecDepth 100000 in
theorem walk_zero (a0 : Option Addr) (cap0 : Nat) (a1 : Int) (w : World) (ha : 0 ≤ a1) (ha' : a1 ≤ 65535) :
    Calls Yba.prog 4 #[.slice a0 0 cap0, .int .u16 a1] w fun e w' => e = .returned (.bool true) ∧ Below w.heap.size w w' := by
  have qe : ∀ (w : World) (a : Option Addr) (n c n' c' : Nat), (binOp .eql 64 (.slice a n c) (.slice none n' c')).run Yba.prog w = .ok (.bool a.isNone) w := fun w a n c n' c' => Lib.run_eql_slice_nil w _ _ a n c n' c' Yba.underlying64
  go_enter Yba.func4, Yba.ntmps4
  go_wp2
  refine wp_loop_rounds 1 ?_
  rw [rounds_succ]
  have hcB : (w.alloc (.cells #[.slice none 0 0, .map none, .map none, .slice none 0 0] 66)).cell? ⟨w.heap.size, 0, none⟩ = some (.slice none 0 0) := four_cell (heap_alloc_new w _)
  go_wp2_with (go_at_call 8; refine (held_out _ _ _ _ _ _ hcB (by omega)).mono ?_; rintro e w' ⟨rfl, rfl⟩)
  go_ret
  exact ⟨rfl, (Below.refl _ _).alloc (Nat.le_refl _) _⟩

theorem walk_long (a0 : Option Addr) (len0 cap0 : Nat) (a1 : Int) (w : World) (hl : 1024 < len0) :
    Calls Yba.prog 4 #[.slice a0 len0 cap0, .int .u16 a1] w fun e w' => e = .returned (.bool true) ∧ Below w.heap.size w w' := by
  go_enter Yba.func4, Yba.ntmps4
  go_wp2
  go_ret
  exact ⟨rfl, Below.refl _ _⟩

end Go.Proofs.Ybulkbhzi.lawS2946CHeld

/- FnOnBoundsOwnBoundsAccepted: the walk. -/
import Derived.Test.Qxb6000709aOwn
namespace Go.Proofs.Qxb6000709a
set_option linter.unusedVariables false
open Go.RowKit

theorem VRow.off {t : TypeId} {w : World} {g : Nat} {vs : List Value} (h : VRow t w g vs) (g' i : Nat) (hg : g ≠ g') (v : Value) : VRow t (w.setCell ⟨g', i, none⟩ v) g vs := h.other hg v

theorem four_below {B g1 g2 g3 g4 i1 i2 i3 i4 : Nat} {x1 x2 x3 x4 : Value} {a w : World} (h : Below B a w) (h1 : B ≤ g1) (h2 : B ≤ g2) (h3 : B ≤ g3) (h4 : B ≤ g4) :
    Below B a ((((w.setCell ⟨g1, i1, none⟩ x1).setCell ⟨g2, i2, none⟩ x2).setCell ⟨g3, i3, none⟩ x3).setCell ⟨g4, i4, none⟩ x4) :=
  (((h.setCell h1 _).setCell h2 _).setCell h3 _).setCell h4 _

theorem own_step (H : Nat → Bool) (k j : Nat) (hH : H k = true) (h : j = cntH H k) : j + 1 = cntH H (k + 1) := by
  simp only [cntH]; rw [if_pos hH, h]

set_option maxRecDepth 100000 in
set_option maxHeartbeats 4000000 in
theorem own_any (a0 a1 a2 : Option Addr) (len ch cn cu : Nat) (H : Nat → Bool) (N U : Nat → Int) (w : World) (hl : len ≤ 4096)
    (n0 : a0 = none → len = 0 ∧ ch = 0) (n1 : a1 = none → len = 0 ∧ cn = 0) (n2 : a2 = none → len = 0 ∧ cu = 0)
    (hH : RowV w a0 len (fun i => .bool (H i))) (hN : RowV w a1 len (fun i => .int .i64 (N i))) (hU : RowV w a2 len (fun i => .int .i64 (U i))) :
    Calls Try.prog 9 #[.slice a0 len ch, .slice a1 len cn, .slice a2 len cu] w fun e w' => e = .returned (.bool true) ∧ Below w.heap.size w w' := by
  have HH : Hid (RowV w a0 len (fun i => .bool (H i))) := hH
  have HN : Hid (RowV w a1 len (fun i => .int .i64 (N i))) := hN
  have HU : Hid (RowV w a2 len (fun i => .int .i64 (U i))) := hU
  have N0 : Hid (a0 = none → len = 0 ∧ ch = 0) := n0
  have N1 : Hid (a1 = none → len = 0 ∧ cn = 0) := n1
  have N2 : Hid (a2 = none → len = 0 ∧ cu = 0) := n2
  clear hH hN hU n0 n1 n2
  obtain ⟨i0, hi, hz0, hz1, hz2⟩ := info_parts Try.info3
  have HI : Hid (Try.prog.info? 3 = some i0 ∧ i0.zero = some (.int .i64 0) ∧ i0.size = 1 ∧ i0.bytes = 8) := ⟨hi, hz0, hz1, hz2⟩
  clear hi hz0 hz1 hz2
  go_enter Try.func9, Try.ntmps9
  go_wp2_with fail
  refine (bytes_yes _ _ _ _ _ _ _ _ _ _ (by omega)).mono ?_
  rintro e w' ⟨rfl, hw⟩
  obtain rfl := hw.symm
  clear hw
  go_wp2_with fail
  refine (cloneB_any a0 len ch H w hl N0.out HH.out).mono ?_
  rintro e w1 ⟨q0, rfl, hq0, hb1⟩
  go_wp2_with fail
  refine (cloneI_any a1 len cn N w1 hl N1.out (HN.out.kept hb1)).mono ?_
  rintro e w2 ⟨q1, rfl, hq1, hb2⟩
  have hb02 := hb1.trans (hb2.mono hb1.size)
  go_wp2_with fail
  refine (cloneI_any a2 len cu U w2 hl N2.out (HU.out.kept hb02)).mono ?_
  rintro e w3 ⟨q2, rfl, hq2, hb3⟩
  have hb03 := hb02.trans (hb3.mono hb02.size)
  have R0 : Hid (RowV w3 q0 len (fun i => .bool (H i))) := (hq0.kept hb2).kept hb3
  have R1 : Hid (RowV w3 q1 len (fun i => .int .i64 (N i))) := hq1.kept hb3
  have R2 : Hid (RowV w3 q2 len (fun i => .int .i64 (U i))) := hq2
  clear hq0 hq1 hq2 hb1 hb2 hb3 hb02 HH HN HU N0 N1 N2
  go_wp2_with fail
  go_loop [7, 8] (fun c i => ∃ (k j : Nat), k ≤ len ∧ i = .int .i64 k ∧ c = .int .i64 j ∧ j ≤ k ∧ Hid (j = cntH H k)) (fun _ i => len - (intOf i).toNat)
  case atStart => exact ⟨0, 0, by omega, rfl, rfl, by omega, rfl⟩
  case round =>
    obtain ⟨k, j, hk, rfl, rfl, hjk, HJ⟩ := hrel
    by_cases hlt : k < len
    · obtain ⟨b0, o0, e0, l0, c0⟩ := R0.out.at (Below.refl _ _) k hlt
      subst e0
      have hki : (k : Int) < (len : Int) := by omega
      by_cases hHk : H k = true
      · have HHk : Hid (H k = true) := hHk
        rw [hHk] at c0
        clear hHk
        go_wp2
        go_round
        case rel => exact ⟨k + 1, j + 1, by omega, by go_num, by go_num, by omega, by show j + 1 = cntH H (k + 1); simp only [cntH]; rw [if_pos HHk.out, HJ.out]⟩
        case measure => simp [intOf]; omega
      · have hHk' : H k = false := by simpa using hHk
        have HHk : Hid (H k = false) := hHk'
        rw [hHk'] at c0
        clear hHk hHk'
        go_wp2
        go_round
        case rel => exact ⟨k + 1, j, by omega, by go_num, rfl, by omega, by show j = cntH H (k + 1); simp only [cntH]; rw [HHk.out, HJ.out]; simp⟩
        case measure => simp [intOf]; omega
    · obtain rfl : len = k := by omega
      obtain ⟨C, hC⟩ : ∃ C, C = j := ⟨_, rfl⟩
      subst hC
      obtain ⟨hi, hz0, hz1, hz2⟩ := HI.out
      go_wp2_with (at_make; refine wpList_make_full _ rfl _ _ 32 rfl w3.heap.size 3 i0 (.int .i64 0) 1 Try.underlying32 hi hz0 hz1 _ _ _ _ C rfl rfl rfl rfl ?b2 ?b3 (Nat.le_refl _) ?_)
      case b2 => first | omega | (rw [hz2]; omega)
      case b3 => unfold maxLen; omega
      intro w4 hown hg
      have r1 : VRow 3 w4 w3.heap.size (List.replicate C (.int .i64 0)) := by have := own_vrow hown; rwa [toList_madeCells_one] at this
      have d4 : Below w3.heap.size w3 w4 := (Below.refl _ _).grown hg (Nat.le_refl _) (fun k h => by cases h)
      clear hown hg
      go_wp2_with (at_make; refine wpList_make_full _ rfl _ _ 32 rfl w4.heap.size 3 i0 (.int .i64 0) 1 Try.underlying32 hi hz0 hz1 _ _ _ _ C rfl rfl rfl rfl ?b2 ?b3 (Nat.le_refl _) ?_)
      case b2 => first | omega | (rw [hz2]; omega)
      case b3 => unfold maxLen; omega
      intro w5 hown hg
      have r2 : VRow 3 w5 w4.heap.size (List.replicate C (.int .i64 0)) := by have := own_vrow hown; rwa [toList_madeCells_one] at this
      have d5 : Below w4.heap.size w4 w5 := (Below.refl _ _).grown hg (Nat.le_refl _) (fun k h => by cases h)
      clear hown hg
      go_wp2_with (at_make; refine wpList_make_full _ rfl _ _ 32 rfl w5.heap.size 3 i0 (.int .i64 0) 1 Try.underlying32 hi hz0 hz1 _ _ _ _ C rfl rfl rfl rfl ?b2 ?b3 (Nat.le_refl _) ?_)
      case b2 => first | omega | (rw [hz2]; omega)
      case b3 => unfold maxLen; omega
      intro w6 hown hg
      have r3 : VRow 3 w6 w5.heap.size (List.replicate C (.int .i64 0)) := by have := own_vrow hown; rwa [toList_madeCells_one] at this
      have d6 : Below w5.heap.size w5 w6 := (Below.refl _ _).grown hg (Nat.le_refl _) (fun k h => by cases h)
      clear hown hg
      go_wp2_with (at_make; refine wpList_make_full _ rfl _ _ 32 rfl w6.heap.size 3 i0 (.int .i64 0) 1 Try.underlying32 hi hz0 hz1 _ _ _ _ C rfl rfl rfl rfl ?b2 ?b3 (Nat.le_refl _) ?_)
      case b2 => first | omega | (rw [hz2]; omega)
      case b3 => unfold maxLen; omega
      intro w7 hown hg
      have r4 : VRow 3 w7 w6.heap.size (List.replicate C (.int .i64 0)) := by have := own_vrow hown; rwa [toList_madeCells_one] at this
      have d7 : Below w6.heap.size w6 w7 := (Below.refl _ _).grown hg (Nat.le_refl _) (fun k h => by cases h)
      clear hown hg hi hz0 hz1 hz2
      have s1 := r1.lt
      have s2 := r2.lt
      have s3 := r3.lt
      have s4 := r4.lt
      have r1' := ((r1.later d5).later d6).later d7
      have r2' := (r2.later d6).later d7
      have r3' := r3.later d7
      have d37 : Below w3.heap.size w3 w7 := d4.trans ((d5.trans ((d6.trans (d7.mono (by omega))).mono (by omega))).mono (by omega))
      clear r1 r2 r3 d4 d5 d6 d7
      go_wp2_with fail
      have HC : Hid (C = cntH H len) := HJ
      clear HJ
      go_loopw [13, 14] (fun jj i wr => ∃ (k j : Nat) (v1 v2 v3 v4 : List Value), k ≤ len ∧ i = .int .i64 k ∧ jj = .int .i64 j ∧ Hid (j = cntH H k) ∧ j ≤ k ∧ VRow 3 wr w3.heap.size v1 ∧ VRow 3 wr w4.heap.size v2 ∧ VRow 3 wr w5.heap.size v3 ∧ VRow 3 wr w6.heap.size v4 ∧ Fwd N H k C v1 ∧ Fwd U H k C v2 ∧ Rev N H k C v3 ∧ Rev U H k C v4 ∧ Below w3.heap.size w3 wr) (fun _ i _ => len - (intOf i).toNat)
      case atStart => exact ⟨0, 0, _, _, _, _, by omega, rfl, rfl, rfl, by omega, r1', r2', r3', r4, Fwd.new _ _ _, Fwd.new _ _ _, Rev.new _ _ _, Rev.new _ _ _, d37⟩
      case round =>
        clear r1' r2' r3' r4 d37
        obtain ⟨k, j, v1, v2, v3, v4, hk2, rfl, rfl, HJ, hjk2, f1, f2, f3, f4, p1, p2, p3, p4, hbk⟩ := hrel
        by_cases hlt2 : k < len
        · obtain ⟨b0, o0, e0, l0, c0⟩ := R0.out.at hbk k hlt2
          subst e0
          have hki : (k : Int) < (len : Int) := by omega
          by_cases hHk : H k = true
          · have HHk : Hid (H k = true) := hHk
            rw [hHk] at c0
            clear hHk
            obtain ⟨b1, o1, e1, l1, c1⟩ := R1.out.at hbk k hlt2
            subst e1
            obtain ⟨b2, o2, e2, l2, c2⟩ := R2.out.at hbk k hlt2
            subst e2
            have hjC : j < C := by rw [HJ.out, HC.out]; exact cntH_lt H k len hlt2 HHk.out
            have hjCi : (j : Int) < (C : Int) := by omega
            obtain ⟨r, hr⟩ : ∃ r : Nat, r = C - 1 - j := ⟨_, rfl⟩
            have HR : Hid (r = C - 1 - j) := hr
            have hri : (C : Int) - 1 - (j : Int) = (r : Int) := by omega
            have hrC : (r : Int) < (C : Int) := by omega
            have hrC' : r < C := by omega
            clear hr
            obtain ⟨x1, y1⟩ := in_len v1 C p1.1.1 j hjC
            obtain ⟨x2, y2⟩ := in_len v2 C p2.1.1 j hjC
            obtain ⟨x3, y3⟩ := in_len v3 C p3.1.1 r hrC'
            obtain ⟨x4, y4⟩ := in_len v4 C p4.1.1 r hrC'
            have t1 := (f1.cell j).trans y1
            have t2 := (f2.cell j).trans y2
            have t3 := (f3.cell r).trans y3
            have t4 := (f4.cell r).trans y4
            have z1 := f1.frozen j
            have z2 := f2.frozen j
            have z3 := f3.frozen r
            have z4 := f4.frozen r
            clear y1 y2 y3 y4
            go_wp2
            go_roundw
            case rel => exact ⟨k + 1, j + 1, _, _, _, _, by omega, by go_num, by go_num, own_step H k j HHk.out HJ.out, by omega,
              (((f1.set j _).off _ _ (by omega) _).off _ _ (by omega) _).off _ _ (by omega) _,
              (((f2.off _ _ (by omega) _).set j _).off _ _ (by omega) _).off _ _ (by omega) _,
              (((f3.off _ _ (by omega) _).off _ _ (by omega) _).set r _).off _ _ (by omega) _,
              (((f4.off _ _ (by omega) _).off _ _ (by omega) _).off _ _ (by omega) _).set r _,
              p1.put j HJ.out hjC, p2.put j HJ.out hjC, p3.put j r HJ.out hjC HR.out, p4.put j r HJ.out hjC HR.out, four_below hbk (by omega) (by omega) (by omega) (by omega)⟩
            case measure => simp [intOf]; omega
          · have hHk' : H k = false := by simpa using hHk
            have HHk : Hid (H k = false) := hHk'
            rw [hHk'] at c0
            clear hHk hHk'
            go_wp2
            go_roundw
            case rel => exact ⟨k + 1, j, v1, v2, v3, v4, by omega, by go_num, rfl, by show j = cntH H (k + 1); simp only [cntH]; rw [HHk.out, HJ.out]; simp, by omega, f1, f2, f3, f4, p1.skip HHk.out, p2.skip HHk.out, p3.skip HHk.out, p4.skip HHk.out, hbk⟩
            case measure => simp [intOf]; omega
        · obtain rfl : len = k := by omega
          have hbw := hb03.trans (hbk.mono hb03.size)
          go_wp2_with fail
          refine (zzOn_any q0 q1 q2 (some ⟨w3.heap.size, 0, none⟩) (some ⟨w4.heap.size, 0, none⟩) len len len len C C C H N U (numAt v1) (numAt v2) _ hl (by omega) (R0.out.kept hbk) (R1.out.kept hbk) (R2.out.kept hbk) (p1.1.row f1) (p2.1.row f2)).mono ?_
          rw [fwd_on N U H len C v1 v2 HC.out p1 p2]
          rintro e w8 ⟨rfl, hb8⟩
          have k8 := hbk.trans (hb8.mono hbk.size)
          go_wp2_with fail
          refine (zzOn_any q0 q1 q2 (some ⟨w5.heap.size, 0, none⟩) (some ⟨w6.heap.size, 0, none⟩) len len len len C C C H N U (numAt v3) (numAt v4) _ hl (by omega) (R0.out.kept k8) (R1.out.kept k8) (R2.out.kept k8) (p3.1.row (f3.later hb8)) (p4.1.row (f4.later hb8))).mono ?_
          rw [rev_on N U H len C v3 v4 HC.out p3 p4]
          rintro e w9 ⟨rfl, hb9⟩
          have k9 := k8.trans (hb9.mono k8.size)
          go_wp2_with fail
          refine (zzOn_any q0 q1 q2 none none len len len len 0 0 0 H N U (fun _ => 0) (fun _ => 0) _ hl (by omega) (R0.out.kept k9) (R1.out.kept k9) (R2.out.kept k9) (fun h => by omega) (fun h => by omega)).mono ?_
          rw [on_none, ← HC.out]
          rintro e w10 ⟨rfl, hb10⟩
          have k10 := k9.trans (hb10.mono k9.size)
          have hfin := hb03.trans (k10.mono hb03.size)
          by_cases hz : C = 0
          · rw [show decide (C = 0) = true by simpa using hz]
            have hzi : ((C : Int) == 0) = true := by simpa using hz
            clear hz
            go_wp2
            go_ret
            exact ⟨rfl, hfin⟩
          · rw [show decide (C = 0) = false by simpa using hz]
            have hzi : ((C : Int) == 0) = false := by simpa using hz
            clear hz
            go_wp2
            go_ret
            exact ⟨rfl, hfin⟩
end Go.Proofs.Qxb6000709a

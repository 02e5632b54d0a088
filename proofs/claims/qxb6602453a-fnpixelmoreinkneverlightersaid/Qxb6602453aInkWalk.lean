/- FnPixelMoreInkNeverLighter: the walk. -/
import Derived.Test.Qxb6602453aInk
import Derived.WalkSmall
namespace Go.Proofs.Qxb6602453a
open Go.RowKit

set_option maxHeartbeats 1000000 in
theorem ink_cmyk (c : Int) (b2 o2 len2 cap2 b3 o3 len3 cap3 : Nat) (ya yb : List Int) (w : World) (l2 : 4 ≤ len2) (l3 : 4 ≤ len3) (m2 : len2 ≤ 65536) (m3 : len3 ≤ 65536) (hs : len2 + len3 ≤ 1048576)
    (hya : ya.length = len2) (hyb : yb.length = len3) (ha : ∀ i : Nat, 0 ≤ ya[i]?.getD 0 ∧ ya[i]?.getD 0 ≤ 255) (hb : ∀ i : Nat, 0 ≤ yb[i]?.getD 0 ∧ yb[i]?.getD 0 ≤ 255)
    (ca : ∀ i, i < len2 → w.cell? ⟨b2, o2 + i, none⟩ = some (.int .u8 (ya[i]?.getD 0))) (cb : ∀ i, i < len3 → w.cell? ⟨b3, o3 + i, none⟩ = some (.int .u8 (yb[i]?.getD 0))) :
    Calls Try.prog 4 #[.int .i64 2, .int .i64 c, .slice (some ⟨b2, o2, none⟩) len2 cap2, .slice (some ⟨b3, o3, none⟩) len3 cap3] w fun e w' => e = .returned (.bool true) ∧ Below w.heap.size w w' := by
  have HK : Hid (Inky 4 3 ya yb (cmTo 3 ya [0, 0, 0]) (cmTo 3 yb [0, 0, 0])) := inky_cmyk ya yb ha hb
  have HA : Hid (∀ i : Nat, 0 ≤ ya[i]?.getD 0 ∧ ya[i]?.getD 0 ≤ 255) := ha
  have HB : Hid (∀ i : Nat, 0 ≤ yb[i]?.getD 0 ∧ yb[i]?.getD 0 ≤ 255) := hb
  have HCA : Hid (∀ i, i < len2 → w.cell? ⟨b2, o2 + i, none⟩ = some (.int .u8 (ya[i]?.getD 0))) := ca
  have HCB : Hid (∀ i, i < len3 → w.cell? ⟨b3, o3 + i, none⟩ = some (.int .u8 (yb[i]?.getD 0))) := cb
  have HYA : Hid (ya.length = len2) := hya
  have HYB : Hid (yb.length = len3) := hyb
  clear ha hb ca cb hya hyb
  go_enter Try.func4, Try.ntmps4
  go_wp2_with (go_at_call 9; refine (bytes4_yes _ _ _ _ _ _ _ _ _ hs).mono ?_; rintro e w' ⟨rfl, hw⟩; obtain rfl := hw.symm; clear hw)
  go_loopw [11] (fun j wr => ∃ k : Nat, k ≤ 4 ∧ j = .int .i64 k ∧ Hid (∀ i : Nat, i < k → ya[i]?.getD 0 ≤ yb[i]?.getD 0) ∧ Below w.heap.size w wr) (fun j _ => 4 - (intOf j).toNat)
  case atStart => exact ⟨0, by omega, rfl, fun i hi => by omega, Below.refl _ _⟩
  case round =>
    obtain ⟨k, hk, rfl, HLE, hbel⟩ := hrel
    by_cases hlt : k < 4
    · have h1 := cell_later hbel (HCA.out k (by omega))
      have h2 := cell_later hbel (HCB.out k (by omega))
      have hi2 : (k : Int) < (len2 : Int) := by omega
      have hi3 : (k : Int) < (len3 : Int) := by omega
      go_wp2_with fail
      go_quiet (fail)
      go_wp2
      · go_ret
        exact ⟨rfl, below_drewN hbel _⟩
      · have hle : ya[k]?.getD 0 ≤ yb[k]?.getD 0 := by omega
        go_roundw
        case rel => exact ⟨k + 1, by omega, by go_num, fun i hi => by rcases Nat.lt_succ_iff_lt_or_eq.1 hi with h | rfl; exact HLE.out i h; exact hle, below_drewN hbel _⟩
        case measure => simp [intOf]; omega
    · obtain rfl : k = 4 := by omega
      go_wp2_with fail
      refine (clone_row ⟨b2, o2, none⟩ len2 cap2 ya _ (by omega) HYA.out (fun i hi => by rw [Addr.add_lit]; exact cell_later hbel (by simpa using HCA.out i hi))).mono ?_
      rintro e w1 ⟨rfl, hra, hb1⟩
      have hbw1 := hbel.trans (hb1.mono hbel.size)
      go_wp2_with fail
      refine (clone_row ⟨b3, o3, none⟩ len3 cap3 yb _ (by omega) HYB.out (fun i hi => by rw [Addr.add_lit]; exact cell_later hbw1 (by simpa using HCB.out i hi))).mono ?_
      rintro e w2 ⟨rfl, hrb, hb2⟩
      have hbw2 := hbw1.trans (hb2.mono hbw1.size)
      have hmk := make3
      have s1 := hra.lt
      have s2 := hrb.lt
      go_wp2_with fail
      have hb3 : Below w2.heap.size w2 ((w2.alloc (.cells #[.int .u8 0, .int .u8 0, .int .u8 0] 5)).alloc (.cells #[.int .u8 0, .int .u8 0, .int .u8 0] 5)) := ((Below.refl _ _).alloc (Nat.le_refl _) _).alloc (by simp) _
      have r3 : BRow ((w2.alloc (.cells #[.int .u8 0, .int .u8 0, .int .u8 0] 5)).alloc (.cells #[.int .u8 0, .int .u8 0, .int .u8 0] 5)) w2.heap.size [0, 0, 0] := (BRow.new w2 [0, 0, 0]).later ((Below.refl _ _).alloc (Nat.le_refl _) _)
      have r4 : BRow ((w2.alloc (.cells #[.int .u8 0, .int .u8 0, .int .u8 0] 5)).alloc (.cells #[.int .u8 0, .int .u8 0, .int .u8 0] 5)) (w2.heap.size + 1) [0, 0, 0] := by
        have := BRow.new (w2.alloc (.cells #[.int .u8 0, .int .u8 0, .int .u8 0] 5)) [0, 0, 0]
        simpa using this
      have ra3 := (hra.later hb2).later hb3
      have rb3 := hrb.later hb3
      have hbw3 := hbw2.trans (hb3.mono hbw2.size)
      clear hmk hb3
      refine (zz_cmyk c 0 0 none 0 0 w2.heap.size wr.heap.size 3 len2 [0, 0, 0] ya _ rfl HYA.out r3 ra3 (by omega) (by omega) l2 (by omega) (by omega) HA.out).mono ?_
      rintro e w3 ⟨rfl, hg3, r3'⟩
      have ra4 := ra3.grown hg3 (by omega)
      have rb4 := rb3.grown hg3 (by omega)
      have r4' := r4.grown hg3 (by omega)
      have hbw4 := hbw3.grown hg3 hbw3.size (fun k hk => by cases hk; have := hbw2.size; omega)
      clear r3 r4 ra3 rb3
      go_wp2_with fail
      refine (zz_cmyk c 0 0 none 0 0 (w2.heap.size + 1) w1.heap.size 3 len3 [0, 0, 0] yb _ rfl HYB.out r4' rb4 (by omega) (by omega) l3 (by omega) (by omega) HB.out).mono ?_
      rintro e w4 ⟨rfl, hg4, rb⟩
      have raL := ra4.grown hg4 (by omega)
      have ra := r3'.grown hg4 (by omega)
      have hbw5 := hbw4.grown hg4 hbw4.size (fun k hk => by cases hk; have := hbw2.size; omega)
      clear hg4 hg3 hbw4 hbw3 r4' rb4 r3' ra4
      go_wp2_with fail
      have lA : (cmTo 3 ya [0, 0, 0]).length = 3 := length_cmTo _ _ _
      have lB : (cmTo 3 yb [0, 0, 0]).length = 3 := length_cmTo _ _ _
      generalize cmTo 3 ya [0, 0, 0] = pA at ra HK lA
      generalize cmTo 3 yb [0, 0, 0] = pB at rb HK lB
      have HlA : Hid (pA.length = 3) := lA
      have HlB : Hid (pB.length = 3) := lB
      clear lA lB
      go_loop [14, 15] (fun t j => ∃ (k : Nat) (bl : Bool), k ≤ 4 ∧ j = .int .i64 k ∧ t = .bool bl ∧ Hid (bl = true → ∀ i : Nat, i < k → ya[i]?.getD 0 = 0)) (fun _ j => 4 - (intOf j).toNat)
      case atStart => exact ⟨0, true, by omega, rfl, rfl, fun _ i hi => by omega⟩
      case round =>
        obtain ⟨k, bl, hk, rfl, rfl, HBL⟩ := hrel
        by_cases hlt : k < 4
        · have h1 := raL.cell k (by rw [HYA.out]; omega)
          have hi2 : (k : Int) < (len2 : Int) := by omega
          by_cases hz : (ya[k]?.getD 0 != 0) = true
          · go_wp2
            go_round
            case rel => exact ⟨k + 1, false, by omega, by go_num, rfl, fun h => by cases h⟩
            case measure => simp [intOf]; omega
          · have hz' : (ya[k]?.getD 0 != 0) = false := by simpa using hz
            clear hz
            go_wp2
            go_round
            case rel => exact ⟨k + 1, bl, by omega, by go_num, rfl, fun h i hi => by rcases Nat.lt_succ_iff_lt_or_eq.1 hi with h' | rfl; exact HBL.out h i h'; simpa using hz'⟩
            case measure => simp [intOf]; omega
        · obtain rfl : k = 4 := by omega
          have HLEk : Hid (∀ k : Nat, k < 3 → pB[k]?.getD 0 ≤ pA[k]?.getD 0) := HK.out.1 HLE.out
          have HWk : Hid (bl = true → ∀ k : Nat, k < 3 → pA[k]?.getD 0 = 255) := fun h => HK.out.2 (HBL.out h)
          clear HK HBL HLE hk hlt
          go_wp2
          go_loopw [16] (fun j wx => ∃ k : Nat, k ≤ 3 ∧ j = .int .i64 k ∧ Below w4.heap.size w4 wx) (fun j _ => 3 - (intOf j).toNat)
          case atStart => exact ⟨0, by omega, rfl, Below.refl _ _⟩
          case round =>
            obtain ⟨k, hk, rfl, hbx⟩ := hrel
            have hfin := hbw5.trans (hbx.mono hbw5.size)
            by_cases hlt : k < 3
            · have h1 := (ra.later hbx).cell k (by rw [HlA.out]; omega)
              have h2 := (rb.later hbx).cell k (by rw [HlB.out]; omega)
              have h3 := HLEk.out k hlt
              cases bl with
              | true =>
                have h4 := HWk.out rfl k hlt
                have h5 : (pA[k]?.getD 0 != 255) = false := by simpa using h4
                clear h4
                go_wp2_with fail
                go_quiet (fail)
                go_wp2
                go_roundw
                case rel => exact ⟨k + 1, by omega, by go_num, below_drewN hbx _⟩
                case measure => simp [intOf]; omega
              | false =>
                go_wp2_with fail
                go_quiet (fail)
                go_wp2
                go_roundw
                case rel => exact ⟨k + 1, by omega, by go_num, below_drewN hbx _⟩
                case measure => simp [intOf]; omega
            · go_wp2
              go_ret
              exact ⟨rfl, hfin⟩

set_option maxHeartbeats 1000000 in
theorem ink_tint (U : Nat) (b2 o2 len2 cap2 b3 o3 len3 cap3 : Nat) (ya yb : List Int) (w : World) (hU : 0 < U) (l2 : U ≤ len2) (l3 : U ≤ len3) (m2 : len2 ≤ 65536) (m3 : len3 ≤ 65536) (hs : len2 + len3 ≤ 1048576)
    (hya : ya.length = len2) (hyb : yb.length = len3) (ha : ∀ i : Nat, 0 ≤ ya[i]?.getD 0 ∧ ya[i]?.getD 0 ≤ 255) (hb : ∀ i : Nat, 0 ≤ yb[i]?.getD 0 ∧ yb[i]?.getD 0 ≤ 255)
    (ca : ∀ i, i < len2 → w.cell? ⟨b2, o2 + i, none⟩ = some (.int .u8 (ya[i]?.getD 0))) (cb : ∀ i, i < len3 → w.cell? ⟨b3, o3 + i, none⟩ = some (.int .u8 (yb[i]?.getD 0))) :
    Calls Try.prog 4 #[.int .i64 4, .int .i64 U, .slice (some ⟨b2, o2, none⟩) len2 cap2, .slice (some ⟨b3, o3, none⟩) len3 cap3] w fun e w' => e = .returned (.bool true) ∧ Below w.heap.size w w' := by
  have HK : Hid (Inky U 1 ya yb (List.set [0, 0, 0] 0 (255 - dark U ya)) (List.set [0, 0, 0] 0 (255 - dark U yb))) := inky_tint U ya yb
  have HA : Hid (∀ i : Nat, 0 ≤ ya[i]?.getD 0 ∧ ya[i]?.getD 0 ≤ 255) := ha
  have HB : Hid (∀ i : Nat, 0 ≤ yb[i]?.getD 0 ∧ yb[i]?.getD 0 ≤ 255) := hb
  have HCA : Hid (∀ i, i < len2 → w.cell? ⟨b2, o2 + i, none⟩ = some (.int .u8 (ya[i]?.getD 0))) := ca
  have HCB : Hid (∀ i, i < len3 → w.cell? ⟨b3, o3 + i, none⟩ = some (.int .u8 (yb[i]?.getD 0))) := cb
  have HYA : Hid (ya.length = len2) := hya
  have HYB : Hid (yb.length = len3) := hyb
  clear ha hb ca cb hya hyb
  go_enter Try.func4, Try.ntmps4
  go_wp2_with (go_at_call 9; refine (bytes4_yes _ _ _ _ _ _ _ _ _ hs).mono ?_; rintro e w' ⟨rfl, hw⟩; obtain rfl := hw.symm; clear hw)
  go_loopw [11] (fun j wr => ∃ k : Nat, k ≤ U ∧ j = .int .i64 k ∧ Hid (∀ i : Nat, i < k → ya[i]?.getD 0 ≤ yb[i]?.getD 0) ∧ Below w.heap.size w wr) (fun j _ => U - (intOf j).toNat)
  case atStart => exact ⟨0, by omega, rfl, fun i hi => by omega, Below.refl _ _⟩
  case round =>
    obtain ⟨k, hk, rfl, HLE, hbel⟩ := hrel
    by_cases hlt : k < U
    · have h1 := cell_later hbel (HCA.out k (by omega))
      have h2 := cell_later hbel (HCB.out k (by omega))
      have hi2 : (k : Int) < (len2 : Int) := by omega
      have hi3 : (k : Int) < (len3 : Int) := by omega
      go_wp2_with fail
      go_quiet (fail)
      go_wp2
      · go_ret
        exact ⟨rfl, below_drewN hbel _⟩
      · have hle : ya[k]?.getD 0 ≤ yb[k]?.getD 0 := by omega
        go_roundw
        case rel => exact ⟨k + 1, by omega, by go_num, fun i hi => by rcases Nat.lt_succ_iff_lt_or_eq.1 hi with h | rfl; exact HLE.out i h; exact hle, below_drewN hbel _⟩
        case measure => simp [intOf]; omega
    · obtain rfl : U = k := by omega
      go_wp2_with fail
      refine (clone_row ⟨b2, o2, none⟩ len2 cap2 ya _ (by omega) HYA.out (fun i hi => by rw [Addr.add_lit]; exact cell_later hbel (by simpa using HCA.out i hi))).mono ?_
      rintro e w1 ⟨rfl, hra, hb1⟩
      have hbw1 := hbel.trans (hb1.mono hbel.size)
      go_wp2_with fail
      refine (clone_row ⟨b3, o3, none⟩ len3 cap3 yb _ (by omega) HYB.out (fun i hi => by rw [Addr.add_lit]; exact cell_later hbw1 (by simpa using HCB.out i hi))).mono ?_
      rintro e w2 ⟨rfl, hrb, hb2⟩
      have hbw2 := hbw1.trans (hb2.mono hbw1.size)
      have hmk := make3
      have s1 := hra.lt
      have s2 := hrb.lt
      go_wp2_with fail
      have hb3 : Below w2.heap.size w2 ((w2.alloc (.cells #[.int .u8 0, .int .u8 0, .int .u8 0] 5)).alloc (.cells #[.int .u8 0, .int .u8 0, .int .u8 0] 5)) := ((Below.refl _ _).alloc (Nat.le_refl _) _).alloc (by simp) _
      have r3 : BRow ((w2.alloc (.cells #[.int .u8 0, .int .u8 0, .int .u8 0] 5)).alloc (.cells #[.int .u8 0, .int .u8 0, .int .u8 0] 5)) w2.heap.size [0, 0, 0] := (BRow.new w2 [0, 0, 0]).later ((Below.refl _ _).alloc (Nat.le_refl _) _)
      have r4 : BRow ((w2.alloc (.cells #[.int .u8 0, .int .u8 0, .int .u8 0] 5)).alloc (.cells #[.int .u8 0, .int .u8 0, .int .u8 0] 5)) (w2.heap.size + 1) [0, 0, 0] := by
        have := BRow.new (w2.alloc (.cells #[.int .u8 0, .int .u8 0, .int .u8 0] 5)) [0, 0, 0]
        simpa using this
      have ra3 := (hra.later hb2).later hb3
      have rb3 := hrb.later hb3
      have hbw3 := hbw2.trans (hb3.mono hbw2.size)
      clear hmk hb3
      refine (zz_tint 0 0 U none 0 0 w2.heap.size wr.heap.size 3 len2 [0, 0, 0] ya _ rfl HYA.out r3 ra3 (by omega) (by omega) l2 (by omega) (by omega) HA.out).mono ?_
      rintro e w3 ⟨rfl, hg3, r3'⟩
      have ra4 := ra3.grown hg3 (by omega)
      have rb4 := rb3.grown hg3 (by omega)
      have r4' := r4.grown hg3 (by omega)
      have hbw4 := hbw3.grown hg3 hbw3.size (fun k hk => by cases hk; have := hbw2.size; omega)
      clear r3 r4 ra3 rb3
      go_wp2_with fail
      refine (zz_tint 0 0 U none 0 0 (w2.heap.size + 1) w1.heap.size 3 len3 [0, 0, 0] yb _ rfl HYB.out r4' rb4 (by omega) (by omega) l3 (by omega) (by omega) HB.out).mono ?_
      rintro e w4 ⟨rfl, hg4, rb⟩
      have raL := ra4.grown hg4 (by omega)
      have ra := r3'.grown hg4 (by omega)
      have hbw5 := hbw4.grown hg4 hbw4.size (fun k hk => by cases hk; have := hbw2.size; omega)
      clear hg4 hg3 hbw4 hbw3 r4' rb4 r3' ra4
      go_wp2_with fail
      have lA : (List.set [0, 0, 0] 0 (255 - dark U ya)).length = 3 := rfl
      have lB : (List.set [0, 0, 0] 0 (255 - dark U yb)).length = 3 := rfl
      generalize List.set [0, 0, 0] 0 (255 - dark U ya) = pA at ra HK lA
      generalize List.set [0, 0, 0] 0 (255 - dark U yb) = pB at rb HK lB
      have HlA : Hid (pA.length = 3) := lA
      have HlB : Hid (pB.length = 3) := lB
      clear lA lB
      go_loop [14, 15] (fun t j => ∃ (k : Nat) (bl : Bool), k ≤ U ∧ j = .int .i64 k ∧ t = .bool bl ∧ Hid (bl = true → ∀ i : Nat, i < k → ya[i]?.getD 0 = 0)) (fun _ j => U - (intOf j).toNat)
      case atStart => exact ⟨0, true, by omega, rfl, rfl, fun _ i hi => by omega⟩
      case round =>
        obtain ⟨k, bl, hk, rfl, rfl, HBL⟩ := hrel
        by_cases hlt : k < U
        · have h1 := raL.cell k (by rw [HYA.out]; omega)
          have hi2 : (k : Int) < (len2 : Int) := by omega
          by_cases hz : (ya[k]?.getD 0 != 0) = true
          · go_wp2
            go_round
            case rel => exact ⟨k + 1, false, by omega, by go_num, rfl, fun h => by cases h⟩
            case measure => simp [intOf]; omega
          · have hz' : (ya[k]?.getD 0 != 0) = false := by simpa using hz
            clear hz
            go_wp2
            go_round
            case rel => exact ⟨k + 1, bl, by omega, by go_num, rfl, fun h i hi => by rcases Nat.lt_succ_iff_lt_or_eq.1 hi with h' | rfl; exact HBL.out h i h'; simpa using hz'⟩
            case measure => simp [intOf]; omega
        · obtain rfl : U = k := by omega
          have HLEk : Hid (∀ k : Nat, k < 1 → pB[k]?.getD 0 ≤ pA[k]?.getD 0) := HK.out.1 HLE.out
          have HWk : Hid (bl = true → ∀ k : Nat, k < 1 → pA[k]?.getD 0 = 255) := fun h => HK.out.2 (HBL.out h)
          clear HK HBL HLE hk hlt
          go_wp2
          go_loopw [16] (fun j wx => ∃ k : Nat, k ≤ 1 ∧ j = .int .i64 k ∧ Below w4.heap.size w4 wx) (fun j _ => 1 - (intOf j).toNat)
          case atStart => exact ⟨0, by omega, rfl, Below.refl _ _⟩
          case round =>
            obtain ⟨k, hk, rfl, hbx⟩ := hrel
            have hfin := hbw5.trans (hbx.mono hbw5.size)
            by_cases hlt : k < 1
            · have h1 := (ra.later hbx).cell k (by rw [HlA.out]; omega)
              have h2 := (rb.later hbx).cell k (by rw [HlB.out]; omega)
              have h3 := HLEk.out k hlt
              cases bl with
              | true =>
                have h4 := HWk.out rfl k hlt
                have h5 : (pA[k]?.getD 0 != 255) = false := by simpa using h4
                clear h4
                go_wp2_with fail
                go_quiet (fail)
                go_wp2
                go_roundw
                case rel => exact ⟨k + 1, by omega, by go_num, below_drewN hbx _⟩
                case measure => simp [intOf]; omega
              | false =>
                go_wp2_with fail
                go_quiet (fail)
                go_wp2
                go_roundw
                case rel => exact ⟨k + 1, by omega, by go_num, below_drewN hbx _⟩
                case measure => simp [intOf]; omega
            · go_wp2
              go_ret
              exact ⟨rfl, hfin⟩
end Go.Proofs.Qxb6602453a

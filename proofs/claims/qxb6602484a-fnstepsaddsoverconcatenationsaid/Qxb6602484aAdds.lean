/- FnStepsAddsOverConcatenation: the plain law and the walk. -/
import Derived.Test.Qxb6602484aBase
namespace Go.Proofs.Qxb6602484a
set_option linter.unusedVariables false
open Go.RowKit

/-! The plain law -/
theorem cnt_left (ya yb : List Int) (k : Nat) (h : k ≤ ya.length) : cnt k (ya ++ yb) = cnt k ya := by
  induction k with
  | zero => rfl
  | succ k ih => simp only [cnt]; rw [ih (by omega), List.getElem?_append_left (by omega)]

theorem cnt_append (ya yb : List Int) (k : Nat) : cnt (ya.length + k) (ya ++ yb) = cnt ya.length ya + cnt k yb := by
  induction k with
  | zero => simp [cnt, cnt_left]
  | succ k ih =>
    rw [← Nat.add_assoc]
    simp only [cnt]
    rw [ih, List.getElem?_append_right (by omega), Nat.add_sub_cancel_left]
    omega

/-- Two rows laid one behind the other, the second as far as k. -/
theorem fill2_set (ya yb : List Int) (n k : Nat) (h : k < yb.length) (hn : n = ya.length + yb.length) : (fill (ya ++ yb) n (ya.length + k)).set (ya.length + k) (yb[k]?.getD 0) = fill (ya ++ yb) n (ya.length + (k + 1)) := by
  have := fill_set (ya ++ yb) n (ya.length + k) (by simp; omega) (by omega)
  rw [List.getElem?_append_right (by omega), Nat.add_sub_cancel_left] at this
  rw [this, Nat.add_assoc]

theorem fill1_set (ya yb : List Int) (n k : Nat) (h : k < ya.length) (hn : n = ya.length + yb.length) : (fill (ya ++ yb) n k).set k (ya[k]?.getD 0) = fill (ya ++ yb) n (k + 1) := by
  have := fill_set (ya ++ yb) n k (by simp; omega) (by omega)
  rwa [List.getElem?_append_left h] at this

/-! The walk -/
set_option maxHeartbeats 400000 in
theorem bytes3_yes (c : Bool) (a2 a3 : Option Addr) (len2 cap2 len3 cap3 : Nat) (w : World) (h : len2 + len3 ≤ 1048576) :
    Calls Try.prog 12 #[.bool c, .slice a2 len2 cap2, .slice a3 len3 cap3] w fun e w' => e = .returned (.bool true) ∧ w' = w := by
  go_enter Try.func12, Try.ntmps12
  go_wp2
  go_ret
  exact ⟨rfl, rfl⟩

set_option maxHeartbeats 400000 in
theorem bytes3_no (c : Bool) (a2 a3 : Option Addr) (len2 cap2 len3 cap3 : Nat) (w : World) (h : 1048576 < len2 + len3) :
    Calls Try.prog 12 #[.bool c, .slice a2 len2 cap2, .slice a3 len3 cap3] w fun e w' => e = .returned (.bool false) ∧ w' = w := by
  by_cases c2 : 1048576 < len2
  · go_enter Try.func12, Try.ntmps12
    go_wp2
    go_ret
    exact ⟨rfl, rfl⟩
  · by_cases c3 : 1048576 < len3
    · go_enter Try.func12, Try.ntmps12
      go_wp2
      go_ret
      exact ⟨rfl, rfl⟩
    · go_enter Try.func12, Try.ntmps12
      go_wp2
      go_ret
      exact ⟨rfl, rfl⟩

theorem adds_long (c : Bool) (a2 a3 : Option Addr) (len2 cap2 len3 cap3 : Nat) (w : World) (h : 1048576 < len2 + len3) :
    Calls Try.prog 4 #[.bool c, .slice a2 len2 cap2, .slice a3 len3 cap3] w fun e w' => e = .returned (.bool true) ∧ w' = w := by
  go_enter Try.func4, Try.ntmps4
  go_wp2_with (go_at_call 12; refine (bytes3_no _ _ _ _ _ _ _ _ h).mono ?_; rintro e w' ⟨rfl, rfl⟩)
  go_ret
  exact ⟨rfl, rfl⟩

set_option maxHeartbeats 1000000 in
theorem adds_any (c : Bool) (a2 a3 : Option Addr) (la ca lb cb : Nat) (ya yb : List Int) (w : World) (hs : la + lb ≤ 1048576)
    (ha : Row8 w a2 la ca ya) (hb : Row8 w a3 lb cb yb) :
    Calls Try.prog 4 #[.bool c, .slice a2 la ca, .slice a3 lb cb] w fun e w' => e = .returned (.bool true) ∧ Below w.heap.size w w' := by
  have HA : Hid (Row8 w a2 la ca ya) := ha
  have HB : Hid (Row8 w a3 lb cb yb) := hb
  clear ha hb
  obtain ⟨i0, hi, hz0, hz1, hz2⟩ := info_parts Try.info5
  go_enter Try.func4, Try.ntmps4
  go_wp2_with fail
  refine (bytes3_yes _ _ _ _ _ _ _ _ hs).mono ?_
  rintro e w' ⟨rfl, hw⟩
  obtain rfl := hw.symm
  clear hw
  go_wp2_with fail
  refine (clone_any a2 la ca ya _ HA.out (by omega)).mono ?_
  rintro e w1 ⟨q2, rfl, hra, hb1⟩
  go_wp2_with fail
  refine (clone_any a3 lb cb yb _ (HB.out.kept hb1) (by omega)).mono ?_
  rintro e w2 ⟨q3, rfl, hrb, hb2⟩
  have hbw2 := hb1.trans (hb2.mono hb1.size)
  go_wp2_with (at_make; refine wpList_make_full _ rfl _ _ 24 rfl w2.heap.size 5 i0 (.int .u8 0) 1 Try.underlying24 hi hz0 hz1 _ _ _ _ (la + lb) rfl rfl (by omega) (by omega) ?b2 ?b3 (Nat.le_refl _) ?_)
  case b2 => rw [hz2]; omega
  case b3 => unfold maxLen; omega
  intro w3 hown hg
  go_wp2_with fail
  have hG : BRow w3 w2.heap.size (fill (ya ++ yb) (la + lb) 0) := by
    have := own_block hown
    rw [toList_madeCells_one] at this
    rw [fill_zero]
    simpa [BRow] using this
  have hb3 : Below w2.heap.size w2 w3 := (Below.refl _ _).grown hg (Nat.le_refl _) (fun k h => by cases h)
  have HNA : Hid (ya.length = la) := HA.out.1
  have HNB : Hid (yb.length = lb) := HB.out.1
  have HYA : Hid (∀ i : Nat, 0 ≤ ya[i]?.getD 0 ∧ ya[i]?.getD 0 ≤ 255) := HA.out.2.1
  have HYB : Hid (∀ i : Nat, 0 ≤ yb[i]?.getD 0 ∧ yb[i]?.getD 0 ≤ 255) := HB.out.2.1
  have hra2 := hra.later hb2
  clear hown hg hi hz0 hz1 hz2 HA HB hra hb1 hb2
  go_loopw [8] (fun i wr => ∃ k : Nat, k ≤ la ∧ i = .int .i64 k ∧ BRow wr w2.heap.size (fill (ya ++ yb) (la + lb) k) ∧ Below w2.heap.size w2 wr) (fun i _ => la - (intOf i).toNat)
  case atStart => exact ⟨0, by omega, rfl, hG, hb3⟩
  case round =>
    obtain ⟨k, hk, rfl, hgk, hbk⟩ := hrel
    by_cases hlt : k < la
    · obtain ⟨e, hr⟩ := (hra2.later hbk).some (by rw [HNA.out]; omega)
      subst e
      have h2 := hr.cell k (by rw [HNA.out]; omega)
      have h3 := hgk.frozen k
      have h4 := hgk.cell k (by rw [length_fill _ _ _ (by simp [HNA.out, HNB.out]; omega) (by omega)]; omega)
      have hki : (k : Int) < (la : Int) := by omega
      go_wp2
      go_roundw
      case rel => exact ⟨k + 1, by omega, by go_num, by have := hgk.set k (ya[k]?.getD 0); rwa [fill1_set _ _ _ _ (by rw [HNA.out]; omega) (by rw [HNA.out, HNB.out])] at this, hbk.setCell (Nat.le_refl _) _⟩
      case measure => simp [intOf]; omega
    · obtain rfl : la = k := by omega
      clear hG hb3
      go_wp2_with fail
      go_loopw [9] (fun i wx => ∃ k : Nat, k ≤ lb ∧ i = .int .i64 k ∧ BRow wx w2.heap.size (fill (ya ++ yb) (la + lb) (la + k)) ∧ Below w2.heap.size w2 wx) (fun i _ => lb - (intOf i).toNat)
      case atStart => exact ⟨0, by omega, rfl, hgk, hbk⟩
      case round =>
        obtain ⟨k, hk2, rfl, hgk2, hbk2⟩ := hrel
        by_cases hlt2 : k < lb
        · obtain ⟨e, hr⟩ := (hrb.later hbk2).some (by rw [HNB.out]; omega)
          subst e
          have h2 := hr.cell k (by rw [HNB.out]; omega)
          have h3 := hgk2.frozen (la + k)
          have h4 := hgk2.cell (la + k) (by rw [length_fill _ _ _ (by simp [HNA.out, HNB.out]; omega) (by omega)]; omega)
          have hki : (k : Int) < (lb : Int) := by omega
          go_wp2
          go_roundw
          case rel => exact ⟨k + 1, by omega, by go_num, by have := hgk2.set (la + k) (yb[k]?.getD 0); have e := fill2_set ya yb (la + lb) k (by rw [HNB.out]; omega) (by rw [HNA.out, HNB.out]); rw [HNA.out] at e; rwa [e] at this, hbk2.setCell (Nat.le_refl _) _⟩
          case measure => simp [intOf]; omega
        · obtain rfl : lb = k := by omega
          have hab : BRow wr w2.heap.size (ya ++ yb) := by rwa [fill_full _ _ (by simp [HNA.out, HNB.out])] at hgk2
          have hca := hra2.later hbk2
          have hcb := hrb.later hbk2
          have hbw := hbw2.trans (hbk2.mono hbw2.size)
          have HYab : Hid (∀ i : Nat, 0 ≤ (ya ++ yb)[i]?.getD 0 ∧ (ya ++ yb)[i]?.getD 0 ≤ 255) := fun i => by
            rcases Nat.lt_or_ge i ya.length with h | h
            · rw [List.getElem?_append_left h]; exact HYA.out i
            · rw [List.getElem?_append_right h]; exact HYB.out _
          clear hgk2 hbk2 hgk hbk hra2 hrb hbw2
          go_wp2_with fail
          refine (zz_steps c 0 false none q2 0 0 la la ya _ (by omega) (hca.row8 HNA.out HYA.out)).mono ?_
          rintro e w4 ⟨rfl, hb4⟩
          go_wp2_with fail
          refine (zz_steps c 0 false none q3 0 0 lb lb yb _ (by omega) ((hcb.later hb4).row8 HNB.out HYB.out)).mono ?_
          rintro e w5 ⟨rfl, hb5⟩
          have hb45 := hb4.trans (hb5.mono hb4.size)
          go_wp2_with fail
          refine (zz_steps c 0 false none (some ⟨w2.heap.size, 0, none⟩) 0 0 (la + lb) (la + lb) (ya ++ yb) _ (by omega) (Cloned.row8 (g := w2.heap.size) (.inr ⟨rfl, hab.later hb45⟩) (by simp [HNA.out, HNB.out]) HYab.out)).mono ?_
          rintro e w6 ⟨rfl, hb6⟩
          have hbf := hbw.trans ((hb45.trans (hb6.mono hb45.size)).mono hbw.size)
          have HS : Hid (cnt (la + lb) (ya ++ yb) = cnt la ya + cnt lb yb) := by have := cnt_append ya yb lb; rw [HNA.out] at this; exact this
          have d1 := cnt_bd ya la
          have d2 := cnt_bd yb lb
          obtain ⟨d1a, d1b⟩ := d1
          obtain ⟨d2a, d2b⟩ := d2
          cases c with
          | false =>
            simp only [stepsOf, Bool.false_eq_true, if_false]
            go_wp2
            go_ret
            exact ⟨rfl, hbf⟩
          | true =>
            simp only [stepsOf, if_true]
            rw [HS.out]
            go_wp2
            go_ret
            exact ⟨rfl, hbf⟩
end Go.Proofs.Qxb6602484a

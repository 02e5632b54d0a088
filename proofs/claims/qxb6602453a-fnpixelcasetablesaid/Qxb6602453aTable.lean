/- FnPixelCaseTable: the walk, over what the pixel and the byte's test do. -/
import Derived.Test.Qxb6602453aByteOKB
namespace Go.Proofs.Qxb6602453a
set_option linter.unusedVariables false
open Go.RowKit

set_option maxHeartbeats 400000 in
theorem bytes7_yes (f c n h : Int) (a2 a3 a4 : Option Addr) (len2 cap2 len3 cap3 len4 cap4 : Nat) (w : World) (hs : len2 + len3 + len4 ≤ 1048576) :
    Calls Try.prog 5 #[.int .i64 f, .int .i64 c, .int .i64 n, .int .i64 h, .slice a2 len2 cap2, .slice a3 len3 cap3, .slice a4 len4 cap4] w fun e w' => e = .returned (.bool true) ∧ w' = w := by
  go_enter Try.func5, Try.ntmps5
  go_wp2
  go_ret
  exact ⟨rfl, rfl⟩

set_option maxHeartbeats 400000 in
theorem bytes7_no (f c n h : Int) (a2 a3 a4 : Option Addr) (len2 cap2 len3 cap3 len4 cap4 : Nat) (w : World) (hs : 1048576 < len2 + len3 + len4) :
    Calls Try.prog 5 #[.int .i64 f, .int .i64 c, .int .i64 n, .int .i64 h, .slice a2 len2 cap2, .slice a3 len3 cap3, .slice a4 len4 cap4] w fun e w' => e = .returned (.bool false) ∧ w' = w := by
  by_cases c2 : 1048576 < len2
  · go_enter Try.func5, Try.ntmps5
    go_wp2
    go_ret
    exact ⟨rfl, rfl⟩
  by_cases c3 : 1048576 < len3
  · go_enter Try.func5, Try.ntmps5
    go_wp2
    go_ret
    exact ⟨rfl, rfl⟩
  by_cases c23 : 1048576 < len2 + len3
  · go_enter Try.func5, Try.ntmps5
    go_wp2
    go_ret
    exact ⟨rfl, rfl⟩
  by_cases c4 : 1048576 < len4
  · go_enter Try.func5, Try.ntmps5
    go_wp2
    go_ret
    exact ⟨rfl, rfl⟩
  · go_enter Try.func5, Try.ntmps5
    go_wp2
    go_ret
    exact ⟨rfl, rfl⟩

theorem Row8.kept {w w' : World} {a : Option Addr} {len cap : Nat} {ys : List Int} (h : Row8 w a len cap ys) (hb : Below w.heap.size w w') : Row8 w' a len cap ys := by
  obtain ⟨h1, h2, h | ⟨x, hx, hl, hc⟩⟩ := h
  · exact ⟨h1, h2, .inl h⟩
  · exact ⟨h1, h2, .inr ⟨x, hx, hl, fun i hi => cell_later hb (hc i hi)⟩⟩

theorem Cloned.row8 {w : World} {a : Option Addr} {g len : Nat} {ys : List Int} (h : Cloned w a g ys) (hl : ys.length = len) (hb : ∀ i : Nat, 0 ≤ ys[i]?.getD 0 ∧ ys[i]?.getD 0 ≤ 255) : Row8 w a len len ys := by
  subst hl
  rcases h with ⟨rfl, rfl⟩ | ⟨rfl, h⟩
  · exact ⟨rfl, hb, .inl ⟨rfl, rfl, rfl⟩⟩
  · exact ⟨rfl, hb, .inr ⟨_, rfl, Nat.le_refl _, fun i hi => by rw [Addr.add_lit, Nat.zero_add]; exact h.cell i hi⟩⟩

theorem Cloned.below {w w' : World} {a : Option Addr} {g B : Nat} {ys : List Int} (h : Cloned w a g ys) (hb : Below B w w') (hg : ∀ x, a = some x → g < B) : Cloned w' a g ys := by
  rcases h with h | ⟨h1, h2⟩
  · exact .inl h
  · exact .inr ⟨h1, h2.below hb (hg _ h1)⟩

/-- What the pixel does to the row 'got'. -/
def PixDo (f comps n hival : Int) (lp lo ll : Nat) (P O L R : List Int) : Prop :=
  ∀ (w1 : World) (pa la ga : Option Addr) (p l g : Nat), Cloned w1 pa p P → Cloned w1 la l L → Cloned w1 ga g O → (∀ x, pa = some x → p < g) → (∀ x, la = some x → l < g) → g ≤ w1.heap.size →
    Calls Try.prog 7 #[.int .i64 f, .int .i64 comps, .int .i64 n, .int .i64 hival, .slice pa lp lp, .slice ga lo lo, .slice la ll ll] w1 fun e w' => e = .returned (.tuple #[]) ∧ Below g w1 w' ∧ Cloned w' ga g R

/-- The byte's test says yes at each byte. -/
def ByteYes (f comps n : Int) (lp lo ll : Nat) (P O L R : List Int) : Prop :=
  ∀ (w1 : World) (pa oa la ga : Option Addr) (p o l g : Nat), Cloned w1 pa p P → Cloned w1 oa o O → Cloned w1 la l L → Cloned w1 ga g R → ∀ j : Nat, j < lo →
    Calls Try.prog 8 #[.int .i64 f, .int .i64 comps, .int .i64 n, .slice pa lp lp, .slice oa lo lo, .slice la ll ll, .slice ga lo lo, .int .i64 j] w1 fun e w' => e = .returned (.bool true) ∧ Below w1.heap.size w1 w'

set_option maxRecDepth 100000 in
set_option maxHeartbeats 1000000 in
theorem table_grey (comps n hival : Int) (pa oa la : Option Addr) (lp cp lo co ll cl : Nat) (P O L R : List Int) (w : World) (hs : lp + lo + ll ≤ 1048576) (m1 : lp ≤ 65536) (m2 : lo ≤ 65536) (m3 : ll ≤ 65536)
    (q1 : 1 ≤ lo) (q2 : 1 ≤ ll)
    (hP : Row8 w pa lp cp P) (hO : Row8 w oa lo co O) (hL : Row8 w la ll cl L) (hx : PixDo 0 comps n hival lp lo ll P O L R) (hy : ByteYes 0 comps n lp lo ll P O L R) :
    Calls Try.prog 3 #[.int .i64 0, .int .i64 comps, .int .i64 n, .int .i64 hival, .slice pa lp cp, .slice oa lo co, .slice la ll cl] w fun e w' => e = .returned (.bool true) ∧ Below w.heap.size w w' := by
  have HP : Hid (Row8 w pa lp cp P) := hP
  have HO : Hid (Row8 w oa lo co O) := hO
  have HL : Hid (Row8 w la ll cl L) := hL
  have HX : Hid (PixDo 0 comps n hival lp lo ll P O L R) := hx
  have HY : Hid (ByteYes 0 comps n lp lo ll P O L R) := hy
  clear hP hO hL hx hy
  go_enter Try.func3, Try.ntmps3
  go_wp2_with (go_at_call 5; refine (bytes7_yes _ _ _ _ _ _ _ _ _ _ _ _ _ _ hs).mono ?_; rintro e w' ⟨rfl, hw⟩; obtain rfl := hw.symm; clear hw)
  refine (clone_any pa lp cp P _ HP.out (by omega)).mono ?_
  rintro e w1 ⟨qp, rfl, hp1, hb1⟩
  go_wp2_with fail
  refine (clone_any oa lo co O _ (HO.out.kept hb1) (by omega)).mono ?_
  rintro e w2 ⟨qo, rfl, ho2, hb2⟩
  have hb02 := hb1.trans (hb2.mono hb1.size)
  go_wp2_with fail
  refine (clone_any la ll cl L _ (HL.out.kept hb02) (by omega)).mono ?_
  rintro e w3 ⟨ql, rfl, hl3, hb3⟩
  have hb03 := hb02.trans (hb3.mono hb02.size)
  go_wp2_with fail
  refine (clone_any qo lo lo O _ ((ho2.later hb3).row8 HO.out.1 HO.out.2.1) (by omega)).mono ?_
  rintro e w4 ⟨qg, rfl, hg4, hb4⟩
  have hb04 := hb03.trans (hb4.mono hb03.size)
  have np : ∀ x, qp = some x → w.heap.size < w3.heap.size := fun x hx => Nat.lt_of_lt_of_le (hp1.lt x hx) (Nat.le_trans hb2.size hb3.size)
  have no : ∀ x, qo = some x → w1.heap.size < w3.heap.size := fun x hx => Nat.lt_of_lt_of_le (ho2.lt x hx) hb3.size
  have nl : ∀ x, ql = some x → w2.heap.size < w3.heap.size := hl3.lt
  have rp := ((hp1.later hb2).later hb3).later hb4
  have ro := (ho2.later hb3).later hb4
  have rl := hl3.later hb4
  have s4 := hb4.size
  have s03 := hb03.size
  clear hp1 hb1 ho2 hb2 hb02 hl3 hb3 hb03 hb4
  go_wp2_with fail
  refine (HX.out w4 qp ql qg w.heap.size w2.heap.size w3.heap.size rp rl hg4 np nl s4).mono ?_
  rintro e w5 ⟨rfl, hb5, rg⟩
  have rp5 := rp.below hb5 np
  have ro5 := ro.below hb5 no
  have rl5 := rl.below hb5 nl
  have hb05 := hb04.trans (hb5.mono s03)
  clear rp ro rl hg4 np no nl s4 s03 hb04 hb5
  go_wp2_with fail
  go_loopw [16] (fun j wx => ∃ k : Nat, k ≤ lo ∧ j = .int .i64 k ∧ Below w5.heap.size w5 wx) (fun j _ => lo - (intOf j).toNat)
  case atStart => exact ⟨0, by omega, rfl, Below.refl _ _⟩
  case round =>
    obtain ⟨k, hk, rfl, hbx⟩ := hrel
    have hfin := hb05.trans (hbx.mono hb05.size)
    by_cases hlt : k < lo
    · go_wp2_with fail
      refine (HY.out wr qp qo ql qg w.heap.size w1.heap.size w2.heap.size w3.heap.size (rp5.later hbx) (ro5.later hbx) (rl5.later hbx) (rg.later hbx) k hlt).mono ?_
      rintro e wy ⟨rfl, hby⟩
      go_wp2
      go_roundw
      case rel => exact ⟨k + 1, by omega, by go_num, hbx.trans (hby.mono hbx.size)⟩
      case measure => simp [intOf]; omega
    · go_wp2
      go_ret
      exact ⟨rfl, hfin⟩

set_option maxRecDepth 100000 in
set_option maxHeartbeats 1000000 in
theorem table_lab (comps n hival : Int) (pa oa la : Option Addr) (lp cp lo co ll cl : Nat) (P O L R : List Int) (w : World) (hs : lp + lo + ll ≤ 1048576) (m1 : lp ≤ 65536) (m2 : lo ≤ 65536) (m3 : ll ≤ 65536)
    (q1 : 1 ≤ lo) (q2 : 1 ≤ ll)
    (hP : Row8 w pa lp cp P) (hO : Row8 w oa lo co O) (hL : Row8 w la ll cl L) (hx : PixDo 3 comps n hival lp lo ll P O L R) (hy : ByteYes 3 comps n lp lo ll P O L R) :
    Calls Try.prog 3 #[.int .i64 3, .int .i64 comps, .int .i64 n, .int .i64 hival, .slice pa lp cp, .slice oa lo co, .slice la ll cl] w fun e w' => e = .returned (.bool true) ∧ Below w.heap.size w w' := by
  have HP : Hid (Row8 w pa lp cp P) := hP
  have HO : Hid (Row8 w oa lo co O) := hO
  have HL : Hid (Row8 w la ll cl L) := hL
  have HX : Hid (PixDo 3 comps n hival lp lo ll P O L R) := hx
  have HY : Hid (ByteYes 3 comps n lp lo ll P O L R) := hy
  clear hP hO hL hx hy
  go_enter Try.func3, Try.ntmps3
  go_wp2_with (go_at_call 5; refine (bytes7_yes _ _ _ _ _ _ _ _ _ _ _ _ _ _ hs).mono ?_; rintro e w' ⟨rfl, hw⟩; obtain rfl := hw.symm; clear hw)
  refine (clone_any pa lp cp P _ HP.out (by omega)).mono ?_
  rintro e w1 ⟨qp, rfl, hp1, hb1⟩
  go_wp2_with fail
  refine (clone_any oa lo co O _ (HO.out.kept hb1) (by omega)).mono ?_
  rintro e w2 ⟨qo, rfl, ho2, hb2⟩
  have hb02 := hb1.trans (hb2.mono hb1.size)
  go_wp2_with fail
  refine (clone_any la ll cl L _ (HL.out.kept hb02) (by omega)).mono ?_
  rintro e w3 ⟨ql, rfl, hl3, hb3⟩
  have hb03 := hb02.trans (hb3.mono hb02.size)
  go_wp2_with fail
  refine (clone_any qo lo lo O _ ((ho2.later hb3).row8 HO.out.1 HO.out.2.1) (by omega)).mono ?_
  rintro e w4 ⟨qg, rfl, hg4, hb4⟩
  have hb04 := hb03.trans (hb4.mono hb03.size)
  have np : ∀ x, qp = some x → w.heap.size < w3.heap.size := fun x hx => Nat.lt_of_lt_of_le (hp1.lt x hx) (Nat.le_trans hb2.size hb3.size)
  have no : ∀ x, qo = some x → w1.heap.size < w3.heap.size := fun x hx => Nat.lt_of_lt_of_le (ho2.lt x hx) hb3.size
  have nl : ∀ x, ql = some x → w2.heap.size < w3.heap.size := hl3.lt
  have rp := ((hp1.later hb2).later hb3).later hb4
  have ro := (ho2.later hb3).later hb4
  have rl := hl3.later hb4
  have s4 := hb4.size
  have s03 := hb03.size
  clear hp1 hb1 ho2 hb2 hb02 hl3 hb3 hb03 hb4
  go_wp2_with fail
  refine (HX.out w4 qp ql qg w.heap.size w2.heap.size w3.heap.size rp rl hg4 np nl s4).mono ?_
  rintro e w5 ⟨rfl, hb5, rg⟩
  have rp5 := rp.below hb5 np
  have ro5 := ro.below hb5 no
  have rl5 := rl.below hb5 nl
  have hb05 := hb04.trans (hb5.mono s03)
  clear rp ro rl hg4 np no nl s4 s03 hb04 hb5
  go_wp2_with fail
  go_loopw [16] (fun j wx => ∃ k : Nat, k ≤ lo ∧ j = .int .i64 k ∧ Below w5.heap.size w5 wx) (fun j _ => lo - (intOf j).toNat)
  case atStart => exact ⟨0, by omega, rfl, Below.refl _ _⟩
  case round =>
    obtain ⟨k, hk, rfl, hbx⟩ := hrel
    have hfin := hb05.trans (hbx.mono hb05.size)
    by_cases hlt : k < lo
    · go_wp2_with fail
      refine (HY.out wr qp qo ql qg w.heap.size w1.heap.size w2.heap.size w3.heap.size (rp5.later hbx) (ro5.later hbx) (rl5.later hbx) (rg.later hbx) k hlt).mono ?_
      rintro e wy ⟨rfl, hby⟩
      go_wp2
      go_roundw
      case rel => exact ⟨k + 1, by omega, by go_num, hbx.trans (hby.mono hbx.size)⟩
      case measure => simp [intOf]; omega
    · go_wp2
      go_ret
      exact ⟨rfl, hfin⟩

set_option maxRecDepth 100000 in
set_option maxHeartbeats 1000000 in
theorem table_rgb (comps n hival : Int) (pa oa la : Option Addr) (lp cp lo co ll cl : Nat) (P O L R : List Int) (w : World) (hs : lp + lo + ll ≤ 1048576) (m1 : lp ≤ 65536) (m2 : lo ≤ 65536) (m3 : ll ≤ 65536)
    (q1 : 3 ≤ lo)
    (hP : Row8 w pa lp cp P) (hO : Row8 w oa lo co O) (hL : Row8 w la ll cl L) (hx : PixDo 1 comps n hival lp lo ll P O L R) (hy : ByteYes 1 comps n lp lo ll P O L R) :
    Calls Try.prog 3 #[.int .i64 1, .int .i64 comps, .int .i64 n, .int .i64 hival, .slice pa lp cp, .slice oa lo co, .slice la ll cl] w fun e w' => e = .returned (.bool true) ∧ Below w.heap.size w w' := by
  have HP : Hid (Row8 w pa lp cp P) := hP
  have HO : Hid (Row8 w oa lo co O) := hO
  have HL : Hid (Row8 w la ll cl L) := hL
  have HX : Hid (PixDo 1 comps n hival lp lo ll P O L R) := hx
  have HY : Hid (ByteYes 1 comps n lp lo ll P O L R) := hy
  clear hP hO hL hx hy
  go_enter Try.func3, Try.ntmps3
  go_wp2_with (go_at_call 5; refine (bytes7_yes _ _ _ _ _ _ _ _ _ _ _ _ _ _ hs).mono ?_; rintro e w' ⟨rfl, hw⟩; obtain rfl := hw.symm; clear hw)
  refine (clone_any pa lp cp P _ HP.out (by omega)).mono ?_
  rintro e w1 ⟨qp, rfl, hp1, hb1⟩
  go_wp2_with fail
  refine (clone_any oa lo co O _ (HO.out.kept hb1) (by omega)).mono ?_
  rintro e w2 ⟨qo, rfl, ho2, hb2⟩
  have hb02 := hb1.trans (hb2.mono hb1.size)
  go_wp2_with fail
  refine (clone_any la ll cl L _ (HL.out.kept hb02) (by omega)).mono ?_
  rintro e w3 ⟨ql, rfl, hl3, hb3⟩
  have hb03 := hb02.trans (hb3.mono hb02.size)
  go_wp2_with fail
  refine (clone_any qo lo lo O _ ((ho2.later hb3).row8 HO.out.1 HO.out.2.1) (by omega)).mono ?_
  rintro e w4 ⟨qg, rfl, hg4, hb4⟩
  have hb04 := hb03.trans (hb4.mono hb03.size)
  have np : ∀ x, qp = some x → w.heap.size < w3.heap.size := fun x hx => Nat.lt_of_lt_of_le (hp1.lt x hx) (Nat.le_trans hb2.size hb3.size)
  have no : ∀ x, qo = some x → w1.heap.size < w3.heap.size := fun x hx => Nat.lt_of_lt_of_le (ho2.lt x hx) hb3.size
  have nl : ∀ x, ql = some x → w2.heap.size < w3.heap.size := hl3.lt
  have rp := ((hp1.later hb2).later hb3).later hb4
  have ro := (ho2.later hb3).later hb4
  have rl := hl3.later hb4
  have s4 := hb4.size
  have s03 := hb03.size
  clear hp1 hb1 ho2 hb2 hb02 hl3 hb3 hb03 hb4
  go_wp2_with fail
  refine (HX.out w4 qp ql qg w.heap.size w2.heap.size w3.heap.size rp rl hg4 np nl s4).mono ?_
  rintro e w5 ⟨rfl, hb5, rg⟩
  have rp5 := rp.below hb5 np
  have ro5 := ro.below hb5 no
  have rl5 := rl.below hb5 nl
  have hb05 := hb04.trans (hb5.mono s03)
  clear rp ro rl hg4 np no nl s4 s03 hb04 hb5
  go_wp2_with fail
  go_loopw [16] (fun j wx => ∃ k : Nat, k ≤ lo ∧ j = .int .i64 k ∧ Below w5.heap.size w5 wx) (fun j _ => lo - (intOf j).toNat)
  case atStart => exact ⟨0, by omega, rfl, Below.refl _ _⟩
  case round =>
    obtain ⟨k, hk, rfl, hbx⟩ := hrel
    have hfin := hb05.trans (hbx.mono hb05.size)
    by_cases hlt : k < lo
    · go_wp2_with fail
      refine (HY.out wr qp qo ql qg w.heap.size w1.heap.size w2.heap.size w3.heap.size (rp5.later hbx) (ro5.later hbx) (rl5.later hbx) (rg.later hbx) k hlt).mono ?_
      rintro e wy ⟨rfl, hby⟩
      go_wp2
      go_roundw
      case rel => exact ⟨k + 1, by omega, by go_num, hbx.trans (hby.mono hbx.size)⟩
      case measure => simp [intOf]; omega
    · go_wp2
      go_ret
      exact ⟨rfl, hfin⟩
end Go.Proofs.Qxb6602453a

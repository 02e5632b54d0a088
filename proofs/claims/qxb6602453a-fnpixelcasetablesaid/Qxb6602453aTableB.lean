/- FnPixelCaseTable: the walk at the other families. -/
import Derived.Test.Qxb6602453aTable
namespace Go.Proofs.Qxb6602453a
set_option linter.unusedVariables false
open Go.RowKit

set_option maxRecDepth 100000 in
set_option maxHeartbeats 1000000 in
theorem table_cmyk (comps n hival : Int) (pa oa la : Option Addr) (lp cp lo co ll cl : Nat) (P O L R : List Int) (w : World) (hs : lp + lo + ll ≤ 1048576) (m1 : lp ≤ 65536) (m2 : lo ≤ 65536) (m3 : ll ≤ 65536)
    (q1 : 3 ≤ lo) (q2 : 4 ≤ ll)
    (hP : Row8 w pa lp cp P) (hO : Row8 w oa lo co O) (hL : Row8 w la ll cl L) (hx : PixDo 2 comps n hival lp lo ll P O L R) (hy : ByteYes 2 comps n lp lo ll P O L R) :
    Calls Try.prog 3 #[.int .i64 2, .int .i64 comps, .int .i64 n, .int .i64 hival, .slice pa lp cp, .slice oa lo co, .slice la ll cl] w fun e w' => e = .returned (.bool true) ∧ Below w.heap.size w w' := by
  have HP : Hid (Row8 w pa lp cp P) := hP
  have HO : Hid (Row8 w oa lo co O) := hO
  have HL : Hid (Row8 w la ll cl L) := hL
  have HX : Hid (PixDo 2 comps n hival lp lo ll P O L R) := hx
  have HY : Hid (ByteYes 2 comps n lp lo ll P O L R) := hy
  clear hP hO hL hx hy
  go_enter Try.func3, Try.ntmps3
  go_wp2_with (go_at_call 5; refine (bytes7_yes _ _ _ _ _ _ _ _ _ _ _ _ _ _ hs).mono ?_; rintro e w' ⟨rfl, hw⟩; obtain rfl := hw.symm; clear hw)
  refine (clone_any pa lp cp P _ HP.out (by omega)).mono ?_
  rintro e w1 ⟨qp, rfl, hp1, hb1⟩
  go_wp2_with fail
  refine (clone_any oa lo co O _ (HO.out.kept hb1) (by omega)).mono ?_
  rintro e w2 ⟨qo, rfl, ho2, hb2⟩
  have hb02 := hb1.trans (hb2.mono hb1.size)
  go_wp2_with fail
  refine (clone_any la ll cl L _ (HL.out.kept hb02) (by omega)).mono ?_
  rintro e w3 ⟨ql, rfl, hl3, hb3⟩
  have hb03 := hb02.trans (hb3.mono hb02.size)
  go_wp2_with fail
  refine (clone_any qo lo lo O _ ((ho2.later hb3).row8 HO.out.1 HO.out.2.1) (by omega)).mono ?_
  rintro e w4 ⟨qg, rfl, hg4, hb4⟩
  have hb04 := hb03.trans (hb4.mono hb03.size)
  have np : ∀ x, qp = some x → w.heap.size < w3.heap.size := fun x hx => Nat.lt_of_lt_of_le (hp1.lt x hx) (Nat.le_trans hb2.size hb3.size)
  have no : ∀ x, qo = some x → w1.heap.size < w3.heap.size := fun x hx => Nat.lt_of_lt_of_le (ho2.lt x hx) hb3.size
  have nl : ∀ x, ql = some x → w2.heap.size < w3.heap.size := hl3.lt
  have rp := ((hp1.later hb2).later hb3).later hb4
  have ro := (ho2.later hb3).later hb4
  have rl := hl3.later hb4
  have s4 := hb4.size
  have s03 := hb03.size
  clear hp1 hb1 ho2 hb2 hb02 hl3 hb3 hb03 hb4
  go_wp2_with fail
  refine (HX.out w4 qp ql qg w.heap.size w2.heap.size w3.heap.size rp rl hg4 np nl s4).mono ?_
  rintro e w5 ⟨rfl, hb5, rg⟩
  have rp5 := rp.below hb5 np
  have ro5 := ro.below hb5 no
  have rl5 := rl.below hb5 nl
  have hb05 := hb04.trans (hb5.mono s03)
  clear rp ro rl hg4 np no nl s4 s03 hb04 hb5
  go_wp2_with fail
  go_loopw [16] (fun j wx => ∃ k : Nat, k ≤ lo ∧ j = .int .i64 k ∧ Below w5.heap.size w5 wx) (fun j _ => lo - (intOf j).toNat)
  case atStart => exact ⟨0, by omega, rfl, Below.refl _ _⟩
  case round =>
    obtain ⟨k, hk, rfl, hbx⟩ := hrel
    have hfin := hb05.trans (hbx.mono hb05.size)
    by_cases hlt : k < lo
    · go_wp2_with fail
      refine (HY.out wr qp qo ql qg w.heap.size w1.heap.size w2.heap.size w3.heap.size (rp5.later hbx) (ro5.later hbx) (rl5.later hbx) (rg.later hbx) k hlt).mono ?_
      rintro e wy ⟨rfl, hby⟩
      go_wp2
      go_roundw
      case rel => exact ⟨k + 1, by omega, by go_num, hbx.trans (hby.mono hbx.size)⟩
      case measure => simp [intOf]; omega
    · go_wp2
      go_ret
      exact ⟨rfl, hfin⟩

set_option maxRecDepth 100000 in
set_option maxHeartbeats 1000000 in
theorem table_tint (U : Nat) (n hival : Int) (pa oa la : Option Addr) (lp cp lo co ll cl : Nat) (P O L R : List Int) (w : World) (hs : lp + lo + ll ≤ 1048576) (m1 : lp ≤ 65536) (m2 : lo ≤ 65536) (m3 : ll ≤ 65536)
    (q1 : 1 ≤ lo) (q2 : U ≤ ll)
    (hP : Row8 w pa lp cp P) (hO : Row8 w oa lo co O) (hL : Row8 w la ll cl L) (hx : PixDo 4 U n hival lp lo ll P O L R) (hy : ByteYes 4 U n lp lo ll P O L R) :
    Calls Try.prog 3 #[.int .i64 4, .int .i64 U, .int .i64 n, .int .i64 hival, .slice pa lp cp, .slice oa lo co, .slice la ll cl] w fun e w' => e = .returned (.bool true) ∧ Below w.heap.size w w' := by
  have HP : Hid (Row8 w pa lp cp P) := hP
  have HO : Hid (Row8 w oa lo co O) := hO
  have HL : Hid (Row8 w la ll cl L) := hL
  have HX : Hid (PixDo 4 U n hival lp lo ll P O L R) := hx
  have HY : Hid (ByteYes 4 U n lp lo ll P O L R) := hy
  clear hP hO hL hx hy
  go_enter Try.func3, Try.ntmps3
  go_wp2_with (go_at_call 5; refine (bytes7_yes _ _ _ _ _ _ _ _ _ _ _ _ _ _ hs).mono ?_; rintro e w' ⟨rfl, hw⟩; obtain rfl := hw.symm; clear hw)
  refine (clone_any pa lp cp P _ HP.out (by omega)).mono ?_
  rintro e w1 ⟨qp, rfl, hp1, hb1⟩
  go_wp2_with fail
  refine (clone_any oa lo co O _ (HO.out.kept hb1) (by omega)).mono ?_
  rintro e w2 ⟨qo, rfl, ho2, hb2⟩
  have hb02 := hb1.trans (hb2.mono hb1.size)
  go_wp2_with fail
  refine (clone_any la ll cl L _ (HL.out.kept hb02) (by omega)).mono ?_
  rintro e w3 ⟨ql, rfl, hl3, hb3⟩
  have hb03 := hb02.trans (hb3.mono hb02.size)
  go_wp2_with fail
  refine (clone_any qo lo lo O _ ((ho2.later hb3).row8 HO.out.1 HO.out.2.1) (by omega)).mono ?_
  rintro e w4 ⟨qg, rfl, hg4, hb4⟩
  have hb04 := hb03.trans (hb4.mono hb03.size)
  have np : ∀ x, qp = some x → w.heap.size < w3.heap.size := fun x hx => Nat.lt_of_lt_of_le (hp1.lt x hx) (Nat.le_trans hb2.size hb3.size)
  have no : ∀ x, qo = some x → w1.heap.size < w3.heap.size := fun x hx => Nat.lt_of_lt_of_le (ho2.lt x hx) hb3.size
  have nl : ∀ x, ql = some x → w2.heap.size < w3.heap.size := hl3.lt
  have rp := ((hp1.later hb2).later hb3).later hb4
  have ro := (ho2.later hb3).later hb4
  have rl := hl3.later hb4
  have s4 := hb4.size
  have s03 := hb03.size
  clear hp1 hb1 ho2 hb2 hb02 hl3 hb3 hb03 hb4
  go_wp2_with fail
  refine (HX.out w4 qp ql qg w.heap.size w2.heap.size w3.heap.size rp rl hg4 np nl s4).mono ?_
  rintro e w5 ⟨rfl, hb5, rg⟩
  have rp5 := rp.below hb5 np
  have ro5 := ro.below hb5 no
  have rl5 := rl.below hb5 nl
  have hb05 := hb04.trans (hb5.mono s03)
  clear rp ro rl hg4 np no nl s4 s03 hb04 hb5
  go_wp2_with fail
  go_loopw [16] (fun j wx => ∃ k : Nat, k ≤ lo ∧ j = .int .i64 k ∧ Below w5.heap.size w5 wx) (fun j _ => lo - (intOf j).toNat)
  case atStart => exact ⟨0, by omega, rfl, Below.refl _ _⟩
  case round =>
    obtain ⟨k, hk, rfl, hbx⟩ := hrel
    have hfin := hb05.trans (hbx.mono hb05.size)
    by_cases hlt : k < lo
    · go_wp2_with fail
      refine (HY.out wr qp qo ql qg w.heap.size w1.heap.size w2.heap.size w3.heap.size (rp5.later hbx) (ro5.later hbx) (rl5.later hbx) (rg.later hbx) k hlt).mono ?_
      rintro e wy ⟨rfl, hby⟩
      go_wp2
      go_roundw
      case rel => exact ⟨k + 1, by omega, by go_num, hbx.trans (hby.mono hbx.size)⟩
      case measure => simp [intOf]; omega
    · go_wp2
      go_ret
      exact ⟨rfl, hfin⟩

set_option maxRecDepth 100000 in
set_option maxHeartbeats 1000000 in
theorem table_idx (comps hival L0 : Int) (N base bl off : Nat) (pa oa : Option Addr) (lp cp lo co ll cl : Nat) (P O L R : List Int) (w : World) (hs : lp + lo + ll ≤ 1048576) (m1 : lp ≤ 65536) (m2 : lo ≤ 65536) (m3 : ll ≤ 65536)
    (q1 : 0 < ll) (q2 : N ≤ lo) (q3 : base ≤ lp) (hbase : L0 * (N : Int) = (base : Int)) (r0 : 0 ≤ L0) (r1 : L0 ≤ 255) (hc : w.cell? ⟨bl, off, none⟩ = some (.int .u8 L0))
    (hP : Row8 w pa lp cp P) (hO : Row8 w oa lo co O) (hL : Row8 w (some ⟨bl, off, none⟩) ll cl L) (hx : PixDo 5 comps N hival lp lo ll P O L R) (hy : ByteYes 5 comps N lp lo ll P O L R) :
    Calls Try.prog 3 #[.int .i64 5, .int .i64 comps, .int .i64 N, .int .i64 hival, .slice pa lp cp, .slice oa lo co, Value.slice (some ⟨bl, off, none⟩) ll cl] w fun e w' => e = .returned (.bool true) ∧ Below w.heap.size w w' := by
  have HP : Hid (Row8 w pa lp cp P) := hP
  have HO : Hid (Row8 w oa lo co O) := hO
  have HL : Hid (Row8 w (some ⟨bl, off, none⟩) ll cl L) := hL
  have HX : Hid (PixDo 5 comps N hival lp lo ll P O L R) := hx
  have HY : Hid (ByteYes 5 comps N lp lo ll P O L R) := hy
  clear hP hO hL hx hy
  have hz : (0 : Int) < (ll : Int) := by omega
  go_enter Try.func3, Try.ntmps3
  go_wp2_with (go_at_call 5; refine (bytes7_yes _ _ _ _ _ _ _ _ _ _ _ _ _ _ hs).mono ?_; rintro e w' ⟨rfl, hw⟩; obtain rfl := hw.symm; clear hw)
  refine (clone_any pa lp cp P _ HP.out (by omega)).mono ?_
  rintro e w1 ⟨qp, rfl, hp1, hb1⟩
  go_wp2_with fail
  refine (clone_any oa lo co O _ (HO.out.kept hb1) (by omega)).mono ?_
  rintro e w2 ⟨qo, rfl, ho2, hb2⟩
  have hb02 := hb1.trans (hb2.mono hb1.size)
  go_wp2_with fail
  refine (clone_any (some ⟨bl, off, none⟩) ll cl L _ (HL.out.kept hb02) (by omega)).mono ?_
  rintro e w3 ⟨ql, rfl, hl3, hb3⟩
  have hb03 := hb02.trans (hb3.mono hb02.size)
  go_wp2_with fail
  refine (clone_any qo lo lo O _ ((ho2.later hb3).row8 HO.out.1 HO.out.2.1) (by omega)).mono ?_
  rintro e w4 ⟨qg, rfl, hg4, hb4⟩
  have hb04 := hb03.trans (hb4.mono hb03.size)
  have np : ∀ x, qp = some x → w.heap.size < w3.heap.size := fun x hx => Nat.lt_of_lt_of_le (hp1.lt x hx) (Nat.le_trans hb2.size hb3.size)
  have no : ∀ x, qo = some x → w1.heap.size < w3.heap.size := fun x hx => Nat.lt_of_lt_of_le (ho2.lt x hx) hb3.size
  have nl : ∀ x, ql = some x → w2.heap.size < w3.heap.size := hl3.lt
  have rp := ((hp1.later hb2).later hb3).later hb4
  have ro := (ho2.later hb3).later hb4
  have rl := hl3.later hb4
  have s4 := hb4.size
  have s03 := hb03.size
  clear hp1 hb1 ho2 hb2 hb02 hl3 hb3 hb03 hb4
  go_wp2_with fail
  refine (HX.out w4 qp ql qg w.heap.size w2.heap.size w3.heap.size rp rl hg4 np nl s4).mono ?_
  rintro e w5 ⟨rfl, hb5, rg⟩
  have rp5 := rp.below hb5 np
  have ro5 := ro.below hb5 no
  have rl5 := rl.below hb5 nl
  have hb05 := hb04.trans (hb5.mono s03)
  clear rp ro rl hg4 np no nl s4 s03 hb04 hb5
  go_wp2_with fail
  go_loopw [16] (fun j wx => ∃ k : Nat, k ≤ lo ∧ j = .int .i64 k ∧ Below w5.heap.size w5 wx) (fun j _ => lo - (intOf j).toNat)
  case atStart => exact ⟨0, by omega, rfl, Below.refl _ _⟩
  case round =>
    obtain ⟨k, hk, rfl, hbx⟩ := hrel
    have hfin := hb05.trans (hbx.mono hb05.size)
    by_cases hlt : k < lo
    · go_wp2_with fail
      refine (HY.out wr qp qo ql qg w.heap.size w1.heap.size w2.heap.size w3.heap.size (rp5.later hbx) (ro5.later hbx) (rl5.later hbx) (rg.later hbx) k hlt).mono ?_
      rintro e wy ⟨rfl, hby⟩
      go_wp2
      go_roundw
      case rel => exact ⟨k + 1, by omega, by go_num, hbx.trans (hby.mono hbx.size)⟩
      case measure => simp [intOf]; omega
    · go_wp2
      go_ret
      exact ⟨rfl, hfin⟩

set_option maxRecDepth 100000 in
set_option maxHeartbeats 1000000 in
theorem table_none (f comps n hival : Int) (pa oa la : Option Addr) (lp cp lo co ll cl : Nat) (P O L R : List Int) (w : World) (hs : lp + lo + ll ≤ 1048576) (m1 : lp ≤ 65536) (m2 : lo ≤ 65536) (m3 : ll ≤ 65536)
    (q1 : f < 0 ∨ 5 < f)
    (hP : Row8 w pa lp cp P) (hO : Row8 w oa lo co O) (hL : Row8 w la ll cl L) (hx : PixDo f comps n hival lp lo ll P O L R) (hy : ByteYes f comps n lp lo ll P O L R) :
    Calls Try.prog 3 #[.int .i64 f, .int .i64 comps, .int .i64 n, .int .i64 hival, .slice pa lp cp, .slice oa lo co, .slice la ll cl] w fun e w' => e = .returned (.bool true) ∧ Below w.heap.size w w' := by
  have HP : Hid (Row8 w pa lp cp P) := hP
  have HO : Hid (Row8 w oa lo co O) := hO
  have HL : Hid (Row8 w la ll cl L) := hL
  have HX : Hid (PixDo f comps n hival lp lo ll P O L R) := hx
  have HY : Hid (ByteYes f comps n lp lo ll P O L R) := hy
  clear hP hO hL hx hy
  have e0 : (f == 0) = false := by simp; omega
  have e1 : (f == 1) = false := by simp; omega
  have e2 : (f == 2) = false := by simp; omega
  have e3 : (f == 3) = false := by simp; omega
  have e4 : (f == 4) = false := by simp; omega
  have e5 : (f == 5) = false := by simp; omega
  go_enter Try.func3, Try.ntmps3
  go_wp2_with (go_at_call 5; refine (bytes7_yes _ _ _ _ _ _ _ _ _ _ _ _ _ _ hs).mono ?_; rintro e w' ⟨rfl, hw⟩; obtain rfl := hw.symm; clear hw)
  refine (clone_any pa lp cp P _ HP.out (by omega)).mono ?_
  rintro e w1 ⟨qp, rfl, hp1, hb1⟩
  go_wp2_with fail
  refine (clone_any oa lo co O _ (HO.out.kept hb1) (by omega)).mono ?_
  rintro e w2 ⟨qo, rfl, ho2, hb2⟩
  have hb02 := hb1.trans (hb2.mono hb1.size)
  go_wp2_with fail
  refine (clone_any la ll cl L _ (HL.out.kept hb02) (by omega)).mono ?_
  rintro e w3 ⟨ql, rfl, hl3, hb3⟩
  have hb03 := hb02.trans (hb3.mono hb02.size)
  go_wp2_with fail
  refine (clone_any qo lo lo O _ ((ho2.later hb3).row8 HO.out.1 HO.out.2.1) (by omega)).mono ?_
  rintro e w4 ⟨qg, rfl, hg4, hb4⟩
  have hb04 := hb03.trans (hb4.mono hb03.size)
  have np : ∀ x, qp = some x → w.heap.size < w3.heap.size := fun x hx => Nat.lt_of_lt_of_le (hp1.lt x hx) (Nat.le_trans hb2.size hb3.size)
  have no : ∀ x, qo = some x → w1.heap.size < w3.heap.size := fun x hx => Nat.lt_of_lt_of_le (ho2.lt x hx) hb3.size
  have nl : ∀ x, ql = some x → w2.heap.size < w3.heap.size := hl3.lt
  have rp := ((hp1.later hb2).later hb3).later hb4
  have ro := (ho2.later hb3).later hb4
  have rl := hl3.later hb4
  have s4 := hb4.size
  have s03 := hb03.size
  clear hp1 hb1 ho2 hb2 hb02 hl3 hb3 hb03 hb4
  go_wp2_with fail
  refine (HX.out w4 qp ql qg w.heap.size w2.heap.size w3.heap.size rp rl hg4 np nl s4).mono ?_
  rintro e w5 ⟨rfl, hb5, rg⟩
  have rp5 := rp.below hb5 np
  have ro5 := ro.below hb5 no
  have rl5 := rl.below hb5 nl
  have hb05 := hb04.trans (hb5.mono s03)
  clear rp ro rl hg4 np no nl s4 s03 hb04 hb5
  go_wp2_with fail
  go_loopw [16] (fun j wx => ∃ k : Nat, k ≤ lo ∧ j = .int .i64 k ∧ Below w5.heap.size w5 wx) (fun j _ => lo - (intOf j).toNat)
  case atStart => exact ⟨0, by omega, rfl, Below.refl _ _⟩
  case round =>
    obtain ⟨k, hk, rfl, hbx⟩ := hrel
    have hfin := hb05.trans (hbx.mono hb05.size)
    by_cases hlt : k < lo
    · go_wp2_with fail
      refine (HY.out wr qp qo ql qg w.heap.size w1.heap.size w2.heap.size w3.heap.size (rp5.later hbx) (ro5.later hbx) (rl5.later hbx) (rg.later hbx) k hlt).mono ?_
      rintro e wy ⟨rfl, hby⟩
      go_wp2
      go_roundw
      case rel => exact ⟨k + 1, by omega, by go_num, hbx.trans (hby.mono hbx.size)⟩
      case measure => simp [intOf]; omega
    · go_wp2
      go_ret
      exact ⟨rfl, hfin⟩
end Go.Proofs.Qxb6602453a

/- FnPixelMoreInkNeverLighter: tint at no component; all ways together. -/
import Derived.Test.Qxb6602453aInkWalk
namespace Go.Proofs.Qxb6602453a
open Go.RowKit

theorem Row8.later {w w' : World} {a : Option Addr} {len cap : Nat} {ys : List Int} (h : Row8 w a len cap ys) (hb : Below w.heap.size w w') : Row8 w' a len cap ys := by
  obtain ⟨h1, h2, h | ⟨x, hx, hl, hc⟩⟩ := h
  · exact ⟨h1, h2, .inl h⟩
  · exact ⟨h1, h2, .inr ⟨x, hx, hl, fun i hi => cell_later hb (hc i hi)⟩⟩

set_option maxHeartbeats 1000000 in
theorem ink_tint0 (a2 a3 : Option Addr) (len2 cap2 len3 cap3 : Nat) (ya yb : List Int) (w : World) (m2 : len2 ≤ 65536) (m3 : len3 ≤ 65536) (hs : len2 + len3 ≤ 1048576)
    (ha : Row8 w a2 len2 cap2 ya) (hb : Row8 w a3 len3 cap3 yb) :
    Calls Try.prog 4 #[.int .i64 4, .int .i64 0, .slice a2 len2 cap2, .slice a3 len3 cap3] w fun e w' => e = .returned (.bool true) ∧ Below w.heap.size w w' := by
  have HA : Hid (Row8 w a2 len2 cap2 ya) := ha
  have HB : Hid (Row8 w a3 len3 cap3 yb) := hb
  clear ha hb
  go_enter Try.func4, Try.ntmps4
  go_wp2_with (go_at_call 9; refine (bytes4_yes _ _ _ _ _ _ _ _ _ hs).mono ?_; rintro e w' ⟨rfl, hw⟩; obtain rfl := hw.symm; clear hw)
  refine wp_loop_rounds 1 ?_
  rw [rounds_succ]
  go_wp2_with fail
  refine (clone_any a2 len2 cap2 ya _ HA.out (by omega)).mono ?_
  rintro e w1 ⟨q2, rfl, hra, hb1⟩
  go_wp2_with fail
  refine (clone_any a3 len3 cap3 yb _ (HB.out.later hb1) (by omega)).mono ?_
  rintro e w2 ⟨q3, rfl, hrb, hb2⟩
  have hbw2 := hb1.trans (hb2.mono hb1.size)
  have hmk := make3
  have n2 : ∀ x, q2 = some x → w.heap.size < w2.heap.size := fun x hx => Nat.lt_of_lt_of_le (hra.lt x hx) hb2.size
  have n3 : ∀ x, q3 = some x → w1.heap.size < w2.heap.size := fun x hx => hrb.lt x hx
  go_wp2_with fail
  have hb3 : Below w2.heap.size w2 ((w2.alloc (.cells #[.int .u8 0, .int .u8 0, .int .u8 0] 5)).alloc (.cells #[.int .u8 0, .int .u8 0, .int .u8 0] 5)) := ((Below.refl _ _).alloc (Nat.le_refl _) _).alloc (by simp) _
  have r3 : BRow ((w2.alloc (.cells #[.int .u8 0, .int .u8 0, .int .u8 0] 5)).alloc (.cells #[.int .u8 0, .int .u8 0, .int .u8 0] 5)) w2.heap.size [0, 0, 0] := (BRow.new w2 [0, 0, 0]).later ((Below.refl _ _).alloc (Nat.le_refl _) _)
  have r4 : BRow ((w2.alloc (.cells #[.int .u8 0, .int .u8 0, .int .u8 0] 5)).alloc (.cells #[.int .u8 0, .int .u8 0, .int .u8 0] 5)) (w2.heap.size + 1) [0, 0, 0] := by
    have := BRow.new (w2.alloc (.cells #[.int .u8 0, .int .u8 0, .int .u8 0] 5)) [0, 0, 0]
    simpa using this
  have ra3 := (hra.later hb2).later hb3
  have rb3 := hrb.later hb3
  have hbw3 := hbw2.trans (hb3.mono hbw2.size)
  clear hmk hb3
  refine (zz_tint0 0 0 none 0 0 w2.heap.size w.heap.size 3 len2 q2 [0, 0, 0] ya _ rfl HA.out.1 r3 ra3 (fun x hx => by have := n2 x hx; omega) (by omega) (by omega) (by omega) HA.out.2.1).mono ?_
  rintro e w3 ⟨rfl, hg3, r3'⟩
  have rb4 := rb3.grown hg3 (fun x hx => by have := n3 x hx; omega)
  have r4' := r4.grown hg3 (by omega)
  have hbw4 := hbw3.grown hg3 hbw3.size (fun k hk => by cases hk; have := hbw2.size; omega)
  clear r3 r4 ra3 rb3
  go_wp2_with fail
  refine (zz_tint0 0 0 none 0 0 (w2.heap.size + 1) w1.heap.size 3 len3 q3 [0, 0, 0] yb _ rfl HB.out.1 r4' rb4 (fun x hx => by have := n3 x hx; omega) (by omega) (by omega) (by omega) HB.out.2.1).mono ?_
  rintro e w4 ⟨rfl, hg4, rb⟩
  have ra := r3'.grown hg4 (by omega)
  have hbw5 := hbw4.grown hg4 hbw4.size (fun k hk => by cases hk; have := hbw2.size; omega)
  clear hg4 hg3 hbw4 hbw3 r4' rb4 r3'
  go_wp2_with fail
  refine wp_loop_rounds 1 ?_
  rw [rounds_succ]
  have c1 := ra.cell 0 (by simp)
  have c2 := rb.cell 0 (by simp)
  go_wp2_with fail
  go_loopw [16] (fun j wx => ∃ k : Nat, k ≤ 1 ∧ j = .int .i64 k ∧ Below w4.heap.size w4 wx) (fun j _ => 1 - (intOf j).toNat)
  case atStart => exact ⟨0, by omega, rfl, Below.refl _ _⟩
  case round =>
    obtain ⟨k, hk, rfl, hbx⟩ := hrel
    have hfin := hbw5.trans (hbx.mono hbw5.size)
    by_cases hlt : k < 1
    · obtain rfl : k = 0 := by omega
      have h1 := cell_later hbx c1
      have h2 := cell_later hbx c2
      go_wp2_with fail
      go_quiet (fail)
      go_wp2
      go_roundw
      case rel => exact ⟨1, by omega, by go_num, below_drewN hbx _⟩
      case measure => simp [intOf]
    · go_wp2
      go_ret
      exact ⟨rfl, hfin⟩

theorem ink_any (f c : Int) (a2 a3 : Option Addr) (len2 cap2 len3 cap3 : Nat) (ya yb : List Int) (w : World) (ha : Row8 w a2 len2 cap2 ya) (hb : Row8 w a3 len3 cap3 yb) :
    Calls Try.prog 4 #[.int .i64 f, .int .i64 c, .slice a2 len2 cap2, .slice a3 len3 cap3] w fun e w' => e = .returned (.bool true) ∧ Below w.heap.size w w' := by
  by_cases h : 1048576 < len2 + len3 ∨ 65536 < len2 ∨ 65536 < len3 ∨ (f ≠ 2 ∧ f ≠ 4) ∨ (f = 2 ∧ (len2 < 4 ∨ len3 < 4)) ∨ (f = 4 ∧ (c < 0 ∨ len2 < c ∨ len3 < c))
  · refine (ink_early f c a2 a3 len2 cap2 len3 cap3 w h).mono ?_
    rintro e w' ⟨rfl, rfl⟩
    exact ⟨rfl, Below.refl _ _⟩
  · by_cases hf : f = 2
    · subst hf
      obtain ⟨b2, o2, rfl, _, ca⟩ := row_at ha (by omega)
      obtain ⟨b3, o3, rfl, _, cb⟩ := row_at hb (by omega)
      exact ink_cmyk c b2 o2 len2 cap2 b3 o3 len3 cap3 ya yb w (by omega) (by omega) (by omega) (by omega) (by omega) ha.1 hb.1 ha.2.1 hb.2.1 ca cb
    · obtain rfl : f = 4 := by omega
      obtain ⟨U, rfl⟩ : ∃ U : Nat, c = U := ⟨c.toNat, by omega⟩
      by_cases hU : U = 0
      · subst hU
        exact ink_tint0 a2 a3 len2 cap2 len3 cap3 ya yb w (by omega) (by omega) (by omega) ha hb
      · obtain ⟨b2, o2, rfl, _, ca⟩ := row_at ha (by omega)
        obtain ⟨b3, o3, rfl, _, cb⟩ := row_at hb (by omega)
        exact ink_tint U b2 o2 len2 cap2 b3 o3 len3 cap3 ya yb w (by omega) (by omega) (by omega) (by omega) (by omega) (by omega) ha.1 hb.1 ha.2.1 hb.2.1 ca cb
end Go.Proofs.Qxb6602453a

/- FnPixelCaseTable: the early ways out; all ways together. -/
import Derived.Test.Qxb6602453aTableC
import Derived.Test.Qxb6602453aInk
namespace Go.Proofs.Qxb6602453a
set_option linter.unusedVariables false
open Go.RowKit

set_option maxHeartbeats 1000000 in
theorem table_long (f c n h : Int) (a2 a3 a4 : Option Addr) (lp cp lo co ll cl : Nat) (w : World) (hh : 1048576 < lp + lo + ll ∨ 65536 < lp ∨ 65536 < lo ∨ 65536 < ll) :
    Calls Try.prog 3 #[.int .i64 f, .int .i64 c, .int .i64 n, .int .i64 h, .slice a2 lp cp, .slice a3 lo co, .slice a4 ll cl] w fun e w' => e = .returned (.bool true) ∧ w' = w := by
  by_cases h0 : 1048576 < lp + lo + ll
  · clear hh
    go_enter Try.func3, Try.ntmps3
    go_wp2_with (go_at_call 5; refine (bytes7_no _ _ _ _ _ _ _ _ _ _ _ _ _ _ h0).mono ?_; rintro e w' ⟨rfl, rfl⟩)
    go_ret
    exact ⟨rfl, rfl⟩
  by_cases h1 : 65536 < lp
  · clear hh
    go_enter Try.func3, Try.ntmps3
    go_wp2_with (go_at_call 5; refine (bytes7_yes _ _ _ _ _ _ _ _ _ _ _ _ _ _ (by omega)).mono ?_; rintro e w' ⟨rfl, rfl⟩)
    go_ret
    exact ⟨rfl, rfl⟩
  by_cases h2 : 65536 < lo
  · clear hh
    go_enter Try.func3, Try.ntmps3
    go_wp2_with (go_at_call 5; refine (bytes7_yes _ _ _ _ _ _ _ _ _ _ _ _ _ _ (by omega)).mono ?_; rintro e w' ⟨rfl, rfl⟩)
    go_ret
    exact ⟨rfl, rfl⟩
  · have h3 : 65536 < ll := by omega
    clear hh
    go_enter Try.func3, Try.ntmps3
    go_wp2_with (go_at_call 5; refine (bytes7_yes _ _ _ _ _ _ _ _ _ _ _ _ _ _ (by omega)).mono ?_; rintro e w' ⟨rfl, rfl⟩)
    go_ret
    exact ⟨rfl, rfl⟩

set_option maxHeartbeats 1000000 in
theorem table_short (f c n h : Int) (a2 a3 a4 : Option Addr) (lp cp lo co ll cl : Nat) (w : World) (hs : lp + lo + ll ≤ 1048576) (m1 : lp ≤ 65536) (m2 : lo ≤ 65536) (m3 : ll ≤ 65536)
    (hh : ((f = 0 ∨ f = 3) ∧ (lo < 1 ∨ ll < 1)) ∨ (f = 1 ∧ lo < 3) ∨ (f = 2 ∧ (lo < 3 ∨ ll < 4)) ∨ (f = 4 ∧ (lo < 1 ∨ c < 0 ∨ ll < c)) ∨ (f = 5 ∧ (ll < 1 ∨ n < 0 ∨ lo < n))) :
    Calls Try.prog 3 #[.int .i64 f, .int .i64 c, .int .i64 n, .int .i64 h, .slice a2 lp cp, .slice a3 lo co, .slice a4 ll cl] w fun e w' => e = .returned (.bool true) ∧ w' = w := by
  rcases hh with ⟨rfl | rfl, hh⟩ | ⟨rfl, hh⟩ | ⟨rfl, hh⟩ | ⟨rfl, hh⟩ | ⟨rfl, hh⟩
  · by_cases k1 : lo < 1
    · clear hh
      go_enter Try.func3, Try.ntmps3
      go_wp2_with (go_at_call 5; refine (bytes7_yes _ _ _ _ _ _ _ _ _ _ _ _ _ _ (by omega)).mono ?_; rintro e w' ⟨rfl, rfl⟩)
      go_ret
      exact ⟨rfl, rfl⟩
    · have k2 : ll < 1 := by omega
      clear hh
      go_enter Try.func3, Try.ntmps3
      go_wp2_with (go_at_call 5; refine (bytes7_yes _ _ _ _ _ _ _ _ _ _ _ _ _ _ (by omega)).mono ?_; rintro e w' ⟨rfl, rfl⟩)
      go_ret
      exact ⟨rfl, rfl⟩
  · by_cases k1 : lo < 1
    · clear hh
      go_enter Try.func3, Try.ntmps3
      go_wp2_with (go_at_call 5; refine (bytes7_yes _ _ _ _ _ _ _ _ _ _ _ _ _ _ (by omega)).mono ?_; rintro e w' ⟨rfl, rfl⟩)
      go_ret
      exact ⟨rfl, rfl⟩
    · have k2 : ll < 1 := by omega
      clear hh
      go_enter Try.func3, Try.ntmps3
      go_wp2_with (go_at_call 5; refine (bytes7_yes _ _ _ _ _ _ _ _ _ _ _ _ _ _ (by omega)).mono ?_; rintro e w' ⟨rfl, rfl⟩)
      go_ret
      exact ⟨rfl, rfl⟩
  · go_enter Try.func3, Try.ntmps3
    go_wp2_with (go_at_call 5; refine (bytes7_yes _ _ _ _ _ _ _ _ _ _ _ _ _ _ (by omega)).mono ?_; rintro e w' ⟨rfl, rfl⟩)
    go_ret
    exact ⟨rfl, rfl⟩
  · by_cases k1 : lo < 3
    · clear hh
      go_enter Try.func3, Try.ntmps3
      go_wp2_with (go_at_call 5; refine (bytes7_yes _ _ _ _ _ _ _ _ _ _ _ _ _ _ (by omega)).mono ?_; rintro e w' ⟨rfl, rfl⟩)
      go_ret
      exact ⟨rfl, rfl⟩
    · have k2 : ll < 4 := by omega
      clear hh
      go_enter Try.func3, Try.ntmps3
      go_wp2_with (go_at_call 5; refine (bytes7_yes _ _ _ _ _ _ _ _ _ _ _ _ _ _ (by omega)).mono ?_; rintro e w' ⟨rfl, rfl⟩)
      go_ret
      exact ⟨rfl, rfl⟩
  · by_cases k1 : lo < 1
    · clear hh
      go_enter Try.func3, Try.ntmps3
      go_wp2_with (go_at_call 5; refine (bytes7_yes _ _ _ _ _ _ _ _ _ _ _ _ _ _ (by omega)).mono ?_; rintro e w' ⟨rfl, rfl⟩)
      go_ret
      exact ⟨rfl, rfl⟩
    · by_cases k2 : c < 0
      · clear hh
        go_enter Try.func3, Try.ntmps3
        go_wp2_with (go_at_call 5; refine (bytes7_yes _ _ _ _ _ _ _ _ _ _ _ _ _ _ (by omega)).mono ?_; rintro e w' ⟨rfl, rfl⟩)
        go_ret
        exact ⟨rfl, rfl⟩
      · have k3 : (ll : Int) < c := by omega
        clear hh
        go_enter Try.func3, Try.ntmps3
        go_wp2_with (go_at_call 5; refine (bytes7_yes _ _ _ _ _ _ _ _ _ _ _ _ _ _ (by omega)).mono ?_; rintro e w' ⟨rfl, rfl⟩)
        go_ret
        exact ⟨rfl, rfl⟩
  · by_cases k1 : ll < 1
    · clear hh
      go_enter Try.func3, Try.ntmps3
      go_wp2_with (go_at_call 5; refine (bytes7_yes _ _ _ _ _ _ _ _ _ _ _ _ _ _ (by omega)).mono ?_; rintro e w' ⟨rfl, rfl⟩)
      go_ret
      exact ⟨rfl, rfl⟩
    · by_cases k2 : n < 0
      · clear hh
        go_enter Try.func3, Try.ntmps3
        go_wp2_with (go_at_call 5; refine (bytes7_yes _ _ _ _ _ _ _ _ _ _ _ _ _ _ (by omega)).mono ?_; rintro e w' ⟨rfl, rfl⟩)
        go_ret
        exact ⟨rfl, rfl⟩
      · have k3 : (lo : Int) < n := by omega
        clear hh
        go_enter Try.func3, Try.ntmps3
        go_wp2_with (go_at_call 5; refine (bytes7_yes _ _ _ _ _ _ _ _ _ _ _ _ _ _ (by omega)).mono ?_; rintro e w' ⟨rfl, rfl⟩)
        go_ret
        exact ⟨rfl, rfl⟩

set_option maxHeartbeats 1000000 in
theorem table_over (c h L0 m : Int) (N : Nat) (a2 a3 : Option Addr) (b off lp cp lo co ll cl : Nat) (w : World) (hs : lp + lo + ll ≤ 1048576) (m1 : lp ≤ 65536) (m2 : lo ≤ 65536) (m3 : ll ≤ 65536)
    (q1 : 0 < ll) (q2 : N ≤ lo) (hc : w.cell? ⟨b, off, none⟩ = some (.int .u8 L0)) (r0 : 0 ≤ L0) (r1 : L0 ≤ 255) (hm : L0 * (N : Int) = m) (q3 : (lp : Int) < m) (q4 : m ≤ 16711680) :
    Calls Try.prog 3 #[.int .i64 5, .int .i64 c, .int .i64 N, .int .i64 h, .slice a2 lp cp, .slice a3 lo co, .slice (some ⟨b, off, none⟩) ll cl] w fun e w' => e = .returned (.bool true) ∧ w' = w := by
  have hz : (0 : Int) < (ll : Int) := by omega
  go_enter Try.func3, Try.ntmps3
  go_wp2_with (go_at_call 5; refine (bytes7_yes _ _ _ _ _ _ _ _ _ _ _ _ _ _ (by omega)).mono ?_; rintro e w' ⟨rfl, rfl⟩)
  go_ret
  exact ⟨rfl, rfl⟩

theorem table_any (f c n h : Int) (a2 a3 a4 : Option Addr) (lp cp lo co ll cl : Nat) (P O L : List Int) (w : World) (hP : Row8 w a2 lp cp P) (hO : Row8 w a3 lo co O) (hL : Row8 w a4 ll cl L) :
    Calls Try.prog 3 #[.int .i64 f, .int .i64 c, .int .i64 n, .int .i64 h, .slice a2 lp cp, .slice a3 lo co, .slice a4 ll cl] w fun e w' => e = .returned (.bool true) ∧ Below w.heap.size w w' := by
  by_cases hh : 1048576 < lp + lo + ll ∨ 65536 < lp ∨ 65536 < lo ∨ 65536 < ll
  · refine (table_long f c n h a2 a3 a4 lp cp lo co ll cl w hh).mono ?_
    rintro e w' ⟨rfl, rfl⟩
    exact ⟨rfl, Below.refl _ _⟩
  have hs : lp + lo + ll ≤ 1048576 := by omega
  have m1 : lp ≤ 65536 := by omega
  have m2 : lo ≤ 65536 := by omega
  have m3 : ll ≤ 65536 := by omega
  by_cases hq : ((f = 0 ∨ f = 3) ∧ (lo < 1 ∨ ll < 1)) ∨ (f = 1 ∧ lo < 3) ∨ (f = 2 ∧ (lo < 3 ∨ ll < 4)) ∨ (f = 4 ∧ (lo < 1 ∨ c < 0 ∨ ll < c)) ∨ (f = 5 ∧ (ll < 1 ∨ n < 0 ∨ lo < n))
  · refine (table_short f c n h a2 a3 a4 lp cp lo co ll cl w hs m1 m2 m3 hq).mono ?_
    rintro e w' ⟨rfl, rfl⟩
    exact ⟨rfl, Below.refl _ _⟩
  by_cases h0 : f = 0
  · subst h0
    exact table_grey c n h a2 a3 a4 lp cp lo co ll cl P O L _ w hs m1 m2 m3 (by omega) (by omega) hP hO hL (pix_grey 0 c n h (.inl rfl) lp lo ll P O L hO.1 hL.1 (by omega) (by omega) m2 m3) (yes_grey 0 c n (.inl rfl) lp lo ll P O L hO.1 hL.1 (by omega) (by omega) m2 m3)
  by_cases h3 : f = 3
  · subst h3
    exact table_lab c n h a2 a3 a4 lp cp lo co ll cl P O L _ w hs m1 m2 m3 (by omega) (by omega) hP hO hL (pix_grey 3 c n h (.inr rfl) lp lo ll P O L hO.1 hL.1 (by omega) (by omega) m2 m3) (yes_grey 3 c n (.inr rfl) lp lo ll P O L hO.1 hL.1 (by omega) (by omega) m2 m3)
  by_cases h1 : f = 1
  · subst h1
    exact table_rgb c n h a2 a3 a4 lp cp lo co ll cl P O L _ w hs m1 m2 m3 (by omega) hP hO hL (pix_rgb c n h lp lo ll P O L hO.1 hL.1 (by omega) m2 m3) (yes_rgb c n lp lo ll P O L hO.1 hL.1 (by omega) m2 m3)
  by_cases h2 : f = 2
  · subst h2
    exact table_cmyk c n h a2 a3 a4 lp cp lo co ll cl P O L _ w hs m1 m2 m3 (by omega) (by omega) hP hO hL (pix_cmyk c n h lp lo ll P O L hO.1 hL.1 (by omega) (by omega) m2 m3 hL.2.1) (yes_cmyk c n lp lo ll P O L hO.1 hL.1 (by omega) (by omega) m2 m3 hL.2.1)
  by_cases h4 : f = 4
  · subst h4
    obtain ⟨U, rfl⟩ : ∃ U : Nat, c = U := ⟨c.toNat, by omega⟩
    exact table_tint U n h a2 a3 a4 lp cp lo co ll cl P O L _ w hs m1 m2 m3 (by omega) (by omega) hP hO hL (pix_tint U n h lp lo ll P O L hO.1 hL.1 (by omega) (by omega) m2 m3 hL.2.1) (yes_tint U n lp lo ll P O L hO.1 hL.1 (by omega) (by omega) m2 m3 hL.2.1)
  by_cases h5 : f = 5
  · subst h5
    obtain ⟨N, rfl⟩ : ∃ N : Nat, n = N := ⟨n.toNat, by omega⟩
    obtain ⟨b, off, rfl, _, hc⟩ := row_at hL (by omega)
    have hc0 : w.cell? ⟨b, off, none⟩ = some (.int .u8 (L[(0 : Nat)]?.getD 0)) := hc 0 (by omega)
    have r := hL.2.1 0
    have p0 : 0 ≤ L[(0 : Nat)]?.getD 0 * (N : Int) := Int.mul_nonneg r.1 (by omega)
    have p1 : L[(0 : Nat)]?.getD 0 * (N : Int) ≤ 255 * 65536 := Int.mul_le_mul r.2 (by omega) (by omega) (by omega)
    by_cases hov : (lp : Int) < L[(0 : Nat)]?.getD 0 * (N : Int)
    · refine (table_over c h _ _ N a2 a3 b off lp cp lo co ll cl w hs m1 m2 m3 (by omega) (by omega) hc0 r.1 r.2 rfl hov (by omega)).mono ?_
      rintro e w' ⟨rfl, rfl⟩
      exact ⟨rfl, Below.refl _ _⟩
    · obtain ⟨base, hbase⟩ : ∃ base : Nat, L[(0 : Nat)]?.getD 0 * (N : Int) = base := ⟨(L[(0 : Nat)]?.getD 0 * (N : Int)).toNat, by omega⟩
      exact table_idx c h (L[(0 : Nat)]?.getD 0) N base b off a2 a3 lp cp lo co ll cl P O L _ w hs m1 m2 m3 (by omega) (by omega) (by omega) hbase r.1 r.2 hc0 hP hO hL (pix_idx c h N base lp lo ll P O L hP.1 hO.1 hL.1 (by omega) (by omega) (by omega) hbase m1 m2 m3 hL.2.1) (yes_idx c N base lp lo ll P O L hP.1 hO.1 hL.1 (by omega) (by omega) (by omega) hbase m1 m2 m3 hL.2.1)
  exact table_none f c n h a2 a3 a4 lp cp lo co ll cl P O L O w hs m1 m2 m3 (by omega) hP hO hL (pix_none f c n h (by omega) lp lo ll P O L) (yes_none f c n (by omega) lp lo ll P O L hO.1 m2 m3)
end Go.Proofs.Qxb6602453a

/- The contracts of zzPixelByteOK (function 8): where the byte is as the table says the answer is true. -/
import Derived.Test.Qxb6602453aPixelB
import Derived.WalkSmall
namespace Go.Proofs.Qxb6602453a
set_option linter.unusedVariables false
open Go.RowKit

set_option maxRecDepth 100000 in
set_option maxHeartbeats 800000 in
theorem ok_same (f comps n : Int) (pa la : Option Addr) (pl pc ll lc ol o g j : Nat) (v : Int) (w : World)
    (hf : ((f = 0 ∨ f = 3) ∧ 0 < j) ∨ (f = 1 ∧ (3 ≤ j ∨ ll ≤ j)) ∨ (f = 2 ∧ 3 ≤ j) ∨ (f = 4 ∧ 0 < j) ∨ f < 0 ∨ 5 < f)
    (ho : w.cell? ⟨o, j, none⟩ = some (.int .u8 v)) (hg : w.cell? ⟨g, j, none⟩ = some (.int .u8 v)) (hj : j < ol) (hol : ol ≤ 65536) (hll : ll ≤ 65536) :
    Calls Try.prog 8 #[.int .i64 f, .int .i64 comps, .int .i64 n, .slice pa pl pc, .slice (some ⟨o, 0, none⟩) ol ol, .slice la ll lc, .slice (some ⟨g, 0, none⟩) ol ol, .int .i64 j] w
      fun e w' => e = .returned (.bool true) ∧ Below w.heap.size w w' := by
  have hji : (j : Int) < (ol : Int) := by omega
  rcases hf with ⟨rfl | rfl, h⟩ | ⟨rfl, h⟩ | ⟨rfl, h⟩ | ⟨rfl, h⟩ | h
  · have e : ((j : Int) == 0) = false := by simp; omega
    go_enter Try.func8, Try.ntmps8
    go_wp2_with fail
    go_quiet (fail)
    go_wp2
    go_ret
    exact ⟨rfl, below_drewN (Below.refl _ _) _⟩
  · have e : ((j : Int) == 0) = false := by simp; omega
    go_enter Try.func8, Try.ntmps8
    go_wp2_with fail
    go_quiet (fail)
    go_wp2
    go_ret
    exact ⟨rfl, below_drewN (Below.refl _ _) _⟩
  · by_cases h3 : 3 ≤ j
    · clear h
      go_enter Try.func8, Try.ntmps8
      go_wp2_with fail
      go_quiet (fail)
      go_wp2
      go_ret
      exact ⟨rfl, below_drewN (Below.refl _ _) _⟩
    · have h4 : ll ≤ j := by omega
      clear h
      go_enter Try.func8, Try.ntmps8
      go_wp2_with fail
      go_quiet (fail)
      go_wp2
      go_ret
      exact ⟨rfl, below_drewN (Below.refl _ _) _⟩
  · go_enter Try.func8, Try.ntmps8
    go_wp2_with fail
    go_quiet (fail)
    go_wp2
    go_ret
    exact ⟨rfl, below_drewN (Below.refl _ _) _⟩
  · have e : ((j : Int) == 0) = false := by simp; omega
    go_enter Try.func8, Try.ntmps8
    go_wp2_with fail
    go_quiet (fail)
    go_wp2
    go_ret
    exact ⟨rfl, below_drewN (Below.refl _ _) _⟩
  · have e0 : (f == 0) = false := by simp; omega
    have e1 : (f == 1) = false := by simp; omega
    have e2 : (f == 2) = false := by simp; omega
    have e3 : (f == 3) = false := by simp; omega
    have e4 : (f == 4) = false := by simp; omega
    have e5 : (f == 5) = false := by simp; omega
    go_enter Try.func8, Try.ntmps8
    go_wp2_with fail
    go_quiet (fail)
    go_wp2
    go_ret
    exact ⟨rfl, below_drewN (Below.refl _ _) _⟩

set_option maxHeartbeats 800000 in
theorem ok_grey (f comps n : Int) (pa oa : Option Addr) (pl pc ll ol oc gl l g : Nat) (v : Int) (w : World) (hf : f = 0 ∨ f = 3)
    (ho : w.cell? ⟨l, 0, none⟩ = some (.int .u8 v)) (hg : w.cell? ⟨g, 0, none⟩ = some (.int .u8 v)) (hl : 0 < ll) (hgl : 0 < gl) :
    Calls Try.prog 8 #[.int .i64 f, .int .i64 comps, .int .i64 n, .slice pa pl pc, .slice oa ol oc, .slice (some ⟨l, 0, none⟩) ll ll, .slice (some ⟨g, 0, none⟩) gl gl, .int .i64 0] w
      fun e w' => e = .returned (.bool true) ∧ Below w.heap.size w w' := by
  have h1 : (0 : Int) < (ll : Int) := by omega
  have h2 : (0 : Int) < (gl : Int) := by omega
  rcases hf with rfl | rfl
  all_goals
    go_enter Try.func8, Try.ntmps8
    go_wp2_with fail
    go_quiet (fail)
    go_wp2
    go_ret
    exact ⟨rfl, below_drewN (Below.refl _ _) _⟩

set_option maxRecDepth 100000 in
set_option maxHeartbeats 800000 in
theorem ok_rgb (comps n : Int) (pa oa : Option Addr) (pl pc ll ol oc gl l g j : Nat) (v : Int) (w : World) (hj3 : j < 3)
    (ho : w.cell? ⟨l, j, none⟩ = some (.int .u8 v)) (hg : w.cell? ⟨g, j, none⟩ = some (.int .u8 v)) (hl : j < ll) (hgl : j < gl) (hll : ll ≤ 65536) :
    Calls Try.prog 8 #[.int .i64 1, .int .i64 comps, .int .i64 n, .slice pa pl pc, .slice oa ol oc, .slice (some ⟨l, 0, none⟩) ll ll, .slice (some ⟨g, 0, none⟩) gl gl, .int .i64 j] w
      fun e w' => e = .returned (.bool true) ∧ Below w.heap.size w w' := by
  have h1 : (j : Int) < (ll : Int) := by omega
  have h2 : (j : Int) < (gl : Int) := by omega
  go_enter Try.func8, Try.ntmps8
  go_wp2_with fail
  go_quiet (fail)
  go_wp2
  go_ret
  exact ⟨rfl, below_drewN (Below.refl _ _) _⟩

set_option maxHeartbeats 800000 in
theorem ok_cmyk (comps n : Int) (pa oa : Option Addr) (pl pc ll ol oc gl l g j : Nat) (a b v : Int) (w : World) (hj3 : j < 3)
    (hla : w.cell? ⟨l, j, none⟩ = some (.int .u8 a)) (hlb : w.cell? ⟨l, 3, none⟩ = some (.int .u8 b)) (hg : w.cell? ⟨g, j, none⟩ = some (.int .u8 v)) (hl : 4 ≤ ll) (hgl : j < gl) (hll : ll ≤ 65536)
    (a0 : 0 ≤ a) (a1 : a ≤ 255) (b0 : 0 ≤ b) (b1 : b ≤ 255) (v0 : 0 ≤ v) (v1 : v ≤ 255) (q0 : v * 255 ≤ (255 - a) * (255 - b)) (q1 : (255 - a) * (255 - b) < (v + 1) * 255) :
    Calls Try.prog 8 #[.int .i64 2, .int .i64 comps, .int .i64 n, .slice pa pl pc, .slice oa ol oc, .slice (some ⟨l, 0, none⟩) ll ll, .slice (some ⟨g, 0, none⟩) gl gl, .int .i64 j] w
      fun e w' => e = .returned (.bool true) ∧ Below w.heap.size w w' := by
  have h1 : (j : Int) < (ll : Int) := by omega
  have h2 : (j : Int) < (gl : Int) := by omega
  have h3 : (3 : Int) < (ll : Int) := by omega
  obtain ⟨m1, m2⟩ := mul_bd (255 - a) (255 - b) (by omega) (by omega) (by omega) (by omega)
  go_enter Try.func8, Try.ntmps8
  go_wp2_with fail
  go_quiet (fail)
  go_wp2
  go_ret
  exact ⟨rfl, below_drewN (Below.refl _ _) _⟩
end Go.Proofs.Qxb6602453a

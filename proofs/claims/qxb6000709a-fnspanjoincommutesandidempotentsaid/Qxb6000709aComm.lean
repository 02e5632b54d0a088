/- FnSpanJoinCommutesAndIdempotent: the walk. -/
import Derived.Test.Qxb6000709aSpan
namespace Go.Proofs.Qxb6000709a
set_option linter.unusedVariables false
open Go.RowKit

def wfB (f t : Int) : Bool := decide (f ≤ t ∧ ¬ (f = 0 ∧ t = 0))

set_option maxHeartbeats 1000000 in
theorem wf_any (f t : Int) (w : World) : Calls Try.prog 20 #[.int .i64 f, .int .i64 t] w fun e w' => e = .returned (.bool (wfB f t)) ∧ w' = w := by
  by_cases h1 : f ≤ t
  · by_cases h2 : f = 0
    · subst h2
      by_cases h3 : t = 0
      · subst h3
        rw [show wfB 0 0 = false from rfl]
        go_enter Try.func20, Try.ntmps20
        go_wp2
        go_ret
        exact ⟨rfl, rfl⟩
      · rw [show wfB 0 t = true by unfold wfB; simp; omega]
        have h4 : (t == 0) = false := by simpa using h3
        go_enter Try.func20, Try.ntmps20
        go_wp2
        go_ret
        exact ⟨rfl, rfl⟩
    · rw [show wfB f t = true by unfold wfB; simp; omega]
      have h4 : (f == 0) = false := by simpa using h2
      go_enter Try.func20, Try.ntmps20
      go_wp2
      go_ret
      exact ⟨rfl, rfl⟩
  · rw [show wfB f t = false by unfold wfB; simp; omega]
    go_enter Try.func20, Try.ntmps20
    go_wp2
    go_ret
    exact ⟨rfl, rfl⟩

theorem zz_join_at (sf st tf tt rf rt : Int) (w : World) (hn : ¬ (sf = 0 ∧ st = 0)) (h1 : rf = min sf tf) (h2 : rt = max st tt) :
    Calls Try.prog 19 #[.int .i64 sf, .int .i64 st, .int .i64 tf, .int .i64 tt] w
      fun e w' => e = .returned (.tuple #[.int .i64 rf, .int .i64 rt]) ∧ Grown w w' := by
  subst h1; subst h2; exact zz_join sf st tf tt w hn

set_option maxHeartbeats 1000000 in
theorem comm_no1 (sf st tf tt : Int) (w : World) (h : wfB sf st = false) :
    Calls Try.prog 7 #[.int .i64 sf, .int .i64 st, .int .i64 tf, .int .i64 tt] w fun e w' => e = .returned (.bool true) ∧ Grown w w' := by
  go_enter Try.func7, Try.ntmps7
  go_wp2_with fail
  refine (wf_any sf st w).mono ?_
  rw [h]
  rintro e w' ⟨rfl, hw⟩
  obtain rfl := hw.symm
  clear hw
  go_wp2
  go_ret
  exact ⟨rfl, Grown.refl _⟩

set_option maxHeartbeats 1000000 in
theorem comm_no2 (sf st tf tt : Int) (w : World) (h : wfB sf st = true) (h2 : wfB tf tt = false) :
    Calls Try.prog 7 #[.int .i64 sf, .int .i64 st, .int .i64 tf, .int .i64 tt] w fun e w' => e = .returned (.bool true) ∧ Grown w w' := by
  go_enter Try.func7, Try.ntmps7
  go_wp2_with fail
  refine (wf_any sf st w).mono ?_
  rw [h]
  rintro e w' ⟨rfl, hw⟩
  obtain rfl := hw.symm
  clear hw
  go_wp2_with fail
  refine (wf_any tf tt w).mono ?_
  rw [h2]
  rintro e w' ⟨rfl, hw⟩
  obtain rfl := hw.symm
  clear hw
  go_wp2
  go_ret
  exact ⟨rfl, Grown.refl _⟩

set_option maxHeartbeats 1000000 in
theorem comm_yes (sf st tf tt A B : Int) (w : World) (h : wfB sf st = true) (h2 : wfB tf tt = true) (hA : A = min sf tf) (hB : B = max st tt) :
    Calls Try.prog 7 #[.int .i64 sf, .int .i64 st, .int .i64 tf, .int .i64 tt] w fun e w' => e = .returned (.bool true) ∧ Grown w w' := by
  have s1 : sf ≤ st ∧ ¬ (sf = 0 ∧ st = 0) := of_decide_eq_true h
  have s2 : tf ≤ tt ∧ ¬ (tf = 0 ∧ tt = 0) := of_decide_eq_true h2
  have HA : Hid (A = min sf tf) := hA
  have HB : Hid (B = max st tt) := hB
  have S1 : Hid (sf ≤ st ∧ ¬ (sf = 0 ∧ st = 0)) := s1
  have S2 : Hid (tf ≤ tt ∧ ¬ (tf = 0 ∧ tt = 0)) := s2
  clear hA hB s1 s2
  go_enter Try.func7, Try.ntmps7
  go_wp2_with fail
  refine (wf_any sf st w).mono ?_
  rw [h]
  rintro e w' ⟨rfl, hw⟩
  obtain rfl := hw.symm
  clear hw
  go_wp2_with fail
  refine (wf_any tf tt w).mono ?_
  rw [h2]
  rintro e w' ⟨rfl, hw⟩
  obtain rfl := hw.symm
  clear hw
  clear h h2
  go_wp2_with fail
  refine (zz_join_at sf st tf tt A B _ S1.out.2 HA.out HB.out).mono ?_
  rintro e w1 ⟨rfl, g1⟩
  go_wp2_with fail
  refine (zz_join_at tf tt sf st A B _ S2.out.2 (by have := HA.out; omega) (by have := HB.out; omega)).mono ?_
  rintro e w2 ⟨rfl, g2⟩
  go_wp2_with fail
  refine (zz_join_at sf st sf st sf st _ S1.out.2 (by omega) (by omega)).mono ?_
  rintro e w3 ⟨rfl, g3⟩
  go_wp2_with fail
  refine (zz_join_at A B tf tt A B _ (by have := HA.out; have := HB.out; have := S1.out; have := S2.out; omega) (by have := HA.out; omega) (by have := HB.out; omega)).mono ?_
  rintro e w4 ⟨rfl, g4⟩
  go_wp2
  go_ret
  exact ⟨rfl, Grown.both (Grown.both (Grown.both g1 g2) g3) g4⟩

theorem comm_any (sf st tf tt : Int) (w : World) :
    Calls Try.prog 7 #[.int .i64 sf, .int .i64 st, .int .i64 tf, .int .i64 tt] w fun e w' => e = .returned (.bool true) ∧ Grown w w' := by
  cases h : wfB sf st with
  | false => exact comm_no1 sf st tf tt w h
  | true =>
    cases h2 : wfB tf tt with
    | false => exact comm_no2 sf st tf tt w h h2
    | true => exact comm_yes sf st tf tt _ _ w h h2 rfl rfl
end Go.Proofs.Qxb6000709a

/- FnSpanJoinLeastHolding: the walk. -/
import Derived.Test.Qxb6000709aSpan
namespace Go.Proofs.Qxb6000709a
set_option linter.unusedVariables false
open Go.RowKit

set_option maxHeartbeats 1000000 in
theorem least_zero (tf tt uf ut : Int) (w : World) :
    Calls Try.prog 6 #[.int .i64 0, .int .i64 0, .int .i64 tf, .int .i64 tt, .int .i64 uf, .int .i64 ut] w fun e w' => e = .returned (.bool true) ∧ Grown w w' := by
  go_enter Try.func6, Try.ntmps6
  go_wp2
  go_ret
  exact ⟨rfl, Grown.refl _⟩

set_option maxHeartbeats 4000000 in
theorem least_from0 (st tf tt : Int) (rf rt uf ut : Int) (w : World) (hn : (st == 0) = false) (hj : Calls Try.prog 19 #[.int .i64 0, .int .i64 st, .int .i64 tf, .int .i64 tt] w fun e w' => e = .returned (.tuple #[.int .i64 rf, .int .i64 rt]) ∧ Grown w w')
    (he : Ends 0 st tf tt rf rt) :
    Calls Try.prog 6 #[.int .i64 0, .int .i64 st, .int .i64 tf, .int .i64 tt, .int .i64 uf, .int .i64 ut] w fun e w' => e = .returned (.bool true) ∧ Grown w w' := by
  have HJ : Hid (Calls Try.prog 19 #[.int .i64 0, .int .i64 st, .int .i64 tf, .int .i64 tt] w fun e w' => e = .returned (.tuple #[.int .i64 rf, .int .i64 rt]) ∧ Grown w w') := hj
  clear hj
  obtain ⟨e1, e2, e3, e4, e5, e6⟩ := he
  rcases e5 with rfl | rfl <;> rcases e6 with rfl | rfl
  all_goals
    go_enter Try.func6, Try.ntmps6
    go_wp2_with fail
    refine HJ.out.mono ?_
    rintro e w1 ⟨rfl, hg⟩
    go_wp2
    all_goals
      go_ret
      exact ⟨rfl, hg⟩

set_option maxHeartbeats 4000000 in
theorem least_other (sf st tf tt : Int) (rf rt uf ut : Int) (w : World) (hn : (sf == 0) = false) (hj : Calls Try.prog 19 #[.int .i64 sf, .int .i64 st, .int .i64 tf, .int .i64 tt] w fun e w' => e = .returned (.tuple #[.int .i64 rf, .int .i64 rt]) ∧ Grown w w')
    (he : Ends sf st tf tt rf rt) :
    Calls Try.prog 6 #[.int .i64 sf, .int .i64 st, .int .i64 tf, .int .i64 tt, .int .i64 uf, .int .i64 ut] w fun e w' => e = .returned (.bool true) ∧ Grown w w' := by
  have HJ : Hid (Calls Try.prog 19 #[.int .i64 sf, .int .i64 st, .int .i64 tf, .int .i64 tt] w fun e w' => e = .returned (.tuple #[.int .i64 rf, .int .i64 rt]) ∧ Grown w w') := hj
  clear hj
  obtain ⟨e1, e2, e3, e4, e5, e6⟩ := he
  rcases e5 with rfl | rfl <;> rcases e6 with rfl | rfl
  all_goals
    go_enter Try.func6, Try.ntmps6
    go_wp2_with fail
    refine HJ.out.mono ?_
    rintro e w1 ⟨rfl, hg⟩
    go_wp2
    all_goals
      go_ret
      exact ⟨rfl, hg⟩

theorem least_any (sf st tf tt uf ut : Int) (w : World) :
    Calls Try.prog 6 #[.int .i64 sf, .int .i64 st, .int .i64 tf, .int .i64 tt, .int .i64 uf, .int .i64 ut] w fun e w' => e = .returned (.bool true) ∧ Grown w w' := by
  by_cases h : sf = 0
  · subst h
    by_cases h2 : st = 0
    · subst h2
      exact least_zero tf tt uf ut w
    · exact least_from0 st tf tt _ _ uf ut w (by simpa using h2) (zz_join 0 st tf tt w (by omega)) (ends_mk 0 st tf tt)
  · exact least_other sf st tf tt _ _ uf ut w (by simpa using h) (zz_join sf st tf tt w (by omega)) (ends_mk sf st tf tt)
end Go.Proofs.Qxb6000709a

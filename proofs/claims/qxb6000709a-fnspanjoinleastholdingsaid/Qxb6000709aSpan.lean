/- The join of two spans (functions 31, 19). -/
import Derived.Test.Qxb6000709aProg
import Derived.WalkKit
import Derived.WalkSpells
import Derived.WalkLawsBesides
import Derived.Deep.QuietTactic
import Derived.BigQuiet
namespace Go.Proofs.Qxb6000709a
set_option linter.unusedVariables false
open Go.RowKit

theorem Grown.drawn {a b : World} (h : Grown a b) (n : Nat) : Grown a (b.drewN n) := h

theorem Grown.both {a b c : World} (h : Grown a b) (k : Grown b c) : Grown a c :=
  ⟨World.keptBut_trans h.1 k.1, fun x => (k.2.1 x).trans (h.2.1 x), Nat.le_trans h.2.2 k.2.2⟩

set_option maxHeartbeats 1000000 in
theorem join_zero (st tf tt : Int) (w : World) (hn : (st == 0) = false) :
    Calls Try.prog 31 #[.agg #[.int .i64 0, .int .i64 st], .agg #[.int .i64 tf, .int .i64 tt]] w
      fun e w' => e = .returned (.agg #[.int .i64 (min 0 tf), .int .i64 (max st tt)]) ∧ Grown w w' := by
  by_cases c1 : tf < 0
  · rw [show min 0 tf = tf by omega]
    by_cases c2 : st < tt
    · rw [show max st tt = tt by omega]
      go_enter Try.func31, Try.ntmps31
      go_wp2
      refine bodyPost_ret (v := .agg #[.int .i64 tf, .int .i64 tt]) (by simp [results, Try.results31, go_sem]) rfl ⟨rfl, ?_⟩
      repeat (first | exact Grown.refl _ | apply Grown.drew | apply Grown.alloc)
    · rw [show max st tt = st by omega]
      go_enter Try.func31, Try.ntmps31
      go_wp2
      refine bodyPost_ret (v := .agg #[.int .i64 tf, .int .i64 st]) (by simp [results, Try.results31, go_sem]) rfl ⟨rfl, ?_⟩
      repeat (first | exact Grown.refl _ | apply Grown.drew | apply Grown.alloc)
  · rw [show min 0 tf = 0 by omega]
    by_cases c2 : st < tt
    · rw [show max st tt = tt by omega]
      go_enter Try.func31, Try.ntmps31
      go_wp2
      refine bodyPost_ret (v := .agg #[.int .i64 0, .int .i64 tt]) (by simp [results, Try.results31, go_sem]) rfl ⟨rfl, ?_⟩
      repeat (first | exact Grown.refl _ | apply Grown.drew | apply Grown.alloc)
    · rw [show max st tt = st by omega]
      go_enter Try.func31, Try.ntmps31
      go_wp2
      refine bodyPost_ret (v := .agg #[.int .i64 0, .int .i64 st]) (by simp [results, Try.results31, go_sem]) rfl ⟨rfl, ?_⟩
      repeat (first | exact Grown.refl _ | apply Grown.drew | apply Grown.alloc)

set_option maxHeartbeats 1000000 in
theorem join_other (sf st tf tt : Int) (w : World) (hn : (sf == 0) = false) :
    Calls Try.prog 31 #[.agg #[.int .i64 sf, .int .i64 st], .agg #[.int .i64 tf, .int .i64 tt]] w
      fun e w' => e = .returned (.agg #[.int .i64 (min sf tf), .int .i64 (max st tt)]) ∧ Grown w w' := by
  by_cases c1 : tf < sf
  · rw [show min sf tf = tf by omega]
    by_cases c2 : st < tt
    · rw [show max st tt = tt by omega]
      go_enter Try.func31, Try.ntmps31
      go_wp2
      refine bodyPost_ret (v := .agg #[.int .i64 tf, .int .i64 tt]) (by simp [results, Try.results31, go_sem]) rfl ⟨rfl, ?_⟩
      repeat (first | exact Grown.refl _ | apply Grown.drew | apply Grown.alloc)
    · rw [show max st tt = st by omega]
      go_enter Try.func31, Try.ntmps31
      go_wp2
      refine bodyPost_ret (v := .agg #[.int .i64 tf, .int .i64 st]) (by simp [results, Try.results31, go_sem]) rfl ⟨rfl, ?_⟩
      repeat (first | exact Grown.refl _ | apply Grown.drew | apply Grown.alloc)
  · rw [show min sf tf = sf by omega]
    by_cases c2 : st < tt
    · rw [show max st tt = tt by omega]
      go_enter Try.func31, Try.ntmps31
      go_wp2
      refine bodyPost_ret (v := .agg #[.int .i64 sf, .int .i64 tt]) (by simp [results, Try.results31, go_sem]) rfl ⟨rfl, ?_⟩
      repeat (first | exact Grown.refl _ | apply Grown.drew | apply Grown.alloc)
    · rw [show max st tt = st by omega]
      go_enter Try.func31, Try.ntmps31
      go_wp2
      refine bodyPost_ret (v := .agg #[.int .i64 sf, .int .i64 st]) (by simp [results, Try.results31, go_sem]) rfl ⟨rfl, ?_⟩
      repeat (first | exact Grown.refl _ | apply Grown.drew | apply Grown.alloc)

theorem join_any (sf st tf tt : Int) (w : World) (hn : ¬ (sf = 0 ∧ st = 0)) :
    Calls Try.prog 31 #[.agg #[.int .i64 sf, .int .i64 st], .agg #[.int .i64 tf, .int .i64 tt]] w
      fun e w' => e = .returned (.agg #[.int .i64 (min sf tf), .int .i64 (max st tt)]) ∧ Grown w w' := by
  by_cases h : sf = 0
  · subst h
    exact join_zero st tf tt w (by simpa using hn)
  · exact join_other sf st tf tt w (by simpa using h)

set_option maxHeartbeats 400000 in
theorem zz_join_of (sf st tf tt rf rt : Int) (w : World)
    (h : Calls Try.prog 31 #[.agg #[.int .i64 sf, .int .i64 st], .agg #[.int .i64 tf, .int .i64 tt]] w fun e w' => e = .returned (.agg #[.int .i64 rf, .int .i64 rt]) ∧ Grown w w') :
    Calls Try.prog 19 #[.int .i64 sf, .int .i64 st, .int .i64 tf, .int .i64 tt] w
      fun e w' => e = .returned (.tuple #[.int .i64 rf, .int .i64 rt]) ∧ Grown w w' := by
  have H : Hid (Calls Try.prog 31 #[.agg #[.int .i64 sf, .int .i64 st], .agg #[.int .i64 tf, .int .i64 tt]] w fun e w' => e = .returned (.agg #[.int .i64 rf, .int .i64 rt]) ∧ Grown w w') := h
  clear h
  go_enter Try.func19, Try.ntmps19
  go_wp2_with fail
  refine H.out.mono ?_
  rintro e w1 ⟨rfl, hg⟩
  go_wp2_with fail
  go_quiet (fail)
  go_wp2
  go_ret2
  exact ⟨rfl, Grown.drawn (hg.alloc _ _) _⟩

/-- The two ends of the join. -/
def Ends (sf st tf tt rf rt : Int) : Prop := rf ≤ sf ∧ rf ≤ tf ∧ st ≤ rt ∧ tt ≤ rt ∧ (rf = sf ∨ rf = tf) ∧ (rt = st ∨ rt = tt)

theorem ends_mk (sf st tf tt : Int) : Ends sf st tf tt (min sf tf) (max st tt) := by unfold Ends; omega

theorem zz_join (sf st tf tt : Int) (w : World) (hn : ¬ (sf = 0 ∧ st = 0)) :
    Calls Try.prog 19 #[.int .i64 sf, .int .i64 st, .int .i64 tf, .int .i64 tt] w
      fun e w' => e = .returned (.tuple #[.int .i64 (min sf tf), .int .i64 (max st tt)]) ∧ Grown w w' :=
  zz_join_of sf st tf tt _ _ w (join_any sf st tf tt w hn)
end Go.Proofs.Qxb6000709a

/- FnOnBoundsOwnBoundsAccepted: the plain law and the walk. -/
import Derived.Test.Qxb6000709aZZOn
namespace Go.Proofs.Qxb6000709a
set_option linter.unusedVariables false
open Go.RowKit

/-! The plain law -/
/-- How many of the first k are true. -/
def cntH (H : Nat → Bool) : Nat → Nat
  | 0 => 0
  | k + 1 => cntH H k + if H k then 1 else 0

theorem cntH_le (H : Nat → Bool) (k : Nat) : cntH H k ≤ k := by
  induction k with
  | zero => exact Nat.le_refl _
  | succ k ih => simp only [cntH]; split <;> omega

theorem cntH_mono (H : Nat → Bool) (i j : Nat) (h : i ≤ j) : cntH H i ≤ cntH H j := by
  induction j with
  | zero => rw [show i = 0 by omega]; exact Nat.le_refl _
  | succ j ih =>
    by_cases e : i = j + 1
    · rw [e]; exact Nat.le_refl _
    · have := ih (by omega)
      simp only [cntH]; omega

theorem cntH_lt (H : Nat → Bool) (i j : Nat) (h : i < j) (hi : H i = true) : cntH H i < cntH H j := by
  have h1 : cntH H (i + 1) = cntH H i + 1 := by simp only [cntH]; rw [if_pos hi]
  have h2 := cntH_mono H (i + 1) j h
  omega

theorem inB_hit (BN BU : Nat → Int) (x y : Int) (m j : Nat) (hj : j < m) (h1 : BN j = x) (h2 : BU j = y) : inB BN BU x y m = true := by
  induction m with
  | zero => omega
  | succ m ih =>
    simp only [inB]
    by_cases e : j = m
    · subst e; simp [h1, h2]
    · rw [ih (by omega)]; rfl

theorem inB_none (BN BU : Nat → Int) (x y : Int) : inB BN BU x y 0 = false := rfl

theorem on_true (H : Nat → Bool) (N U BN BU : Nat → Int) (m len : Nat) (h : ∀ i, i < len → H i = true → ∃ j, j < m ∧ BN j = N i ∧ BU j = U i) : onTo H N U BN BU m len = true := by
  induction len with
  | zero => rfl
  | succ n ih =>
    simp only [onTo]
    rw [ih (fun i hi => h i (by omega))]
    cases hn : H n with
    | false => rfl
    | true =>
      obtain ⟨j, hj, h1, h2⟩ := h n (by omega) hn
      rw [inB_hit BN BU _ _ m j hj h1 h2]; rfl

theorem on_none (H : Nat → Bool) (N U BN BU : Nat → Int) (len : Nat) : onTo H N U BN BU 0 len = decide (cntH H len = 0) := by
  induction len with
  | zero => rfl
  | succ n ih =>
    simp only [onTo, cntH]
    rw [ih, inB_none]
    by_cases hn : H n = true <;> simp [hn]

/-! The rows that the law fills -/
def Ints (n : Nat) (vs : List Value) : Prop := vs.length = n ∧ ∀ i, i < n → ∃ z : Int, vs[i]? = some (.int .i64 z)

theorem Ints.rep (n : Nat) : Ints n (List.replicate n (.int .i64 0)) := ⟨by simp, fun i hi => ⟨0, by simp [hi]⟩⟩

theorem Ints.set {n : Nat} {vs : List Value} (h : Ints n vs) (k : Nat) (z : Int) : Ints n (vs.set k (.int .i64 z)) := by
  refine ⟨by simpa using h.1, fun i hi => ?_⟩
  by_cases e : k = i
  · subst e; exact ⟨z, by simp [h.1, hi]⟩
  · rw [List.getElem?_set_ne e]; exact h.2 i hi

/-- The number at place i. -/
def numAt (vs : List Value) (i : Nat) : Int := intOf (vs[i]?.getD undef)

theorem Ints.row {n g : Nat} {vs : List Value} {w : World} (h : Ints n vs) (hr : VRow 3 w g vs) : RowV w (some ⟨g, 0, none⟩) n (fun i => .int .i64 (numAt vs i)) :=
  fun _ => ⟨g, 0, rfl, fun i hi => by
    obtain ⟨z, hz⟩ := h.2 i hi
    rw [Nat.zero_add, hr.cell i, hz]
    simp [numAt, hz, intOf]⟩

/-- From the head: the j-th true one's number at place j. -/
def Fwd (X : Nat → Int) (H : Nat → Bool) (k n : Nat) (vs : List Value) : Prop := Ints n vs ∧ ∀ i, i < k → H i = true → vs[cntH H i]? = some (.int .i64 (X i))
/-- From the end. -/
def Rev (X : Nat → Int) (H : Nat → Bool) (k n : Nat) (vs : List Value) : Prop := Ints n vs ∧ ∀ i, i < k → H i = true → vs[n - 1 - cntH H i]? = some (.int .i64 (X i))

theorem Fwd.new (X : Nat → Int) (H : Nat → Bool) (n : Nat) : Fwd X H 0 n (List.replicate n (.int .i64 0)) := ⟨Ints.rep n, fun i hi => by omega⟩
theorem Rev.new (X : Nat → Int) (H : Nat → Bool) (n : Nat) : Rev X H 0 n (List.replicate n (.int .i64 0)) := ⟨Ints.rep n, fun i hi => by omega⟩

theorem Fwd.skip {X : Nat → Int} {H : Nat → Bool} {k n : Nat} {vs : List Value} (h : Fwd X H k n vs) (hk : H k = false) : Fwd X H (k + 1) n vs :=
  ⟨h.1, fun i hi hH => by rcases Nat.lt_succ_iff_lt_or_eq.1 hi with h' | rfl; exact h.2 i h' hH; rw [hk] at hH; cases hH⟩
theorem Rev.skip {X : Nat → Int} {H : Nat → Bool} {k n : Nat} {vs : List Value} (h : Rev X H k n vs) (hk : H k = false) : Rev X H (k + 1) n vs :=
  ⟨h.1, fun i hi hH => by rcases Nat.lt_succ_iff_lt_or_eq.1 hi with h' | rfl; exact h.2 i h' hH; rw [hk] at hH; cases hH⟩

theorem Fwd.put {X : Nat → Int} {H : Nat → Bool} {k n : Nat} {vs : List Value} (h : Fwd X H k n vs) (j : Nat) (hj : j = cntH H k) (hn : j < n) : Fwd X H (k + 1) n (vs.set j (.int .i64 (X k))) := by
  refine ⟨h.1.set _ _, fun i hi hH => ?_⟩
  rcases Nat.lt_succ_iff_lt_or_eq.1 hi with h' | rfl
  · have := cntH_lt H i k h' hH
    rw [List.getElem?_set_ne (by omega)]; exact h.2 i h' hH
  · rw [← hj, List.getElem?_set_self (by rw [h.1.1]; exact hn)]
theorem Rev.put {X : Nat → Int} {H : Nat → Bool} {k n : Nat} {vs : List Value} (h : Rev X H k n vs) (j r : Nat) (hj : j = cntH H k) (hn : j < n) (hr : r = n - 1 - j) : Rev X H (k + 1) n (vs.set r (.int .i64 (X k))) := by
  refine ⟨h.1.set _ _, fun i hi hH => ?_⟩
  rcases Nat.lt_succ_iff_lt_or_eq.1 hi with h' | rfl
  · have := cntH_lt H i k h' hH
    rw [List.getElem?_set_ne (by omega)]; exact h.2 i h' hH
  · rw [← hj, ← hr, List.getElem?_set_self (by rw [h.1.1]; omega)]

theorem fwd_on (N U : Nat → Int) (H : Nat → Bool) (len n : Nat) (vs us : List Value) (hn : n = cntH H len) (h1 : Fwd N H len n vs) (h2 : Fwd U H len n us) : onTo H N U (numAt vs) (numAt us) n len = true :=
  on_true H N U _ _ n len fun i hi hH => ⟨cntH H i, by rw [hn]; exact cntH_lt H i len hi hH, by simp [numAt, h1.2 i hi hH, intOf], by simp [numAt, h2.2 i hi hH, intOf]⟩
theorem rev_on (N U : Nat → Int) (H : Nat → Bool) (len n : Nat) (vs us : List Value) (hn : n = cntH H len) (h1 : Rev N H len n vs) (h2 : Rev U H len n us) : onTo H N U (numAt vs) (numAt us) n len = true :=
  on_true H N U _ _ n len fun i hi hH => ⟨n - 1 - cntH H i, by have := cntH_lt H i len hi hH; omega, by simp [numAt, h1.2 i hi hH, intOf], by simp [numAt, h2.2 i hi hH, intOf]⟩

/-! The walk -/
set_option maxHeartbeats 1000000 in
theorem own_early (a0 a1 a2 : Option Addr) (lh ch ln cn lu cu : Nat) (w : World)
    (h : 1048576 < lh + ln + lu ∨ 4096 < lh ∨ 4096 < ln ∨ 4096 < lu ∨ ln ≠ lh ∨ lu ≠ lh) :
    Calls Try.prog 9 #[.slice a0 lh ch, .slice a1 ln cn, .slice a2 lu cu] w fun e w' => e = .returned (.bool true) ∧ w' = w := by
  by_cases h0 : 1048576 < lh + ln + lu
  · clear h
    go_enter Try.func9, Try.ntmps9
    go_wp2_with (go_at_call 21; refine (bytes_no _ _ _ _ _ _ _ _ _ _ h0).mono ?_; rintro e w' ⟨rfl, rfl⟩)
    go_ret
    exact ⟨rfl, rfl⟩
  by_cases h1 : 4096 < lh
  · clear h
    go_enter Try.func9, Try.ntmps9
    go_wp2_with (go_at_call 21; refine (bytes_yes _ _ _ _ _ _ _ _ _ _ (by omega)).mono ?_; rintro e w' ⟨rfl, rfl⟩)
    go_ret
    exact ⟨rfl, rfl⟩
  by_cases h2 : 4096 < ln
  · clear h
    go_enter Try.func9, Try.ntmps9
    go_wp2_with (go_at_call 21; refine (bytes_yes _ _ _ _ _ _ _ _ _ _ (by omega)).mono ?_; rintro e w' ⟨rfl, rfl⟩)
    go_ret
    exact ⟨rfl, rfl⟩
  by_cases h3 : 4096 < lu
  · clear h
    go_enter Try.func9, Try.ntmps9
    go_wp2_with (go_at_call 21; refine (bytes_yes _ _ _ _ _ _ _ _ _ _ (by omega)).mono ?_; rintro e w' ⟨rfl, rfl⟩)
    go_ret
    exact ⟨rfl, rfl⟩
  by_cases h4 : ((ln : Int) != (lh : Int)) = true
  · clear h
    go_enter Try.func9, Try.ntmps9
    go_wp2_with (go_at_call 21; refine (bytes_yes _ _ _ _ _ _ _ _ _ _ (by omega)).mono ?_; rintro e w' ⟨rfl, rfl⟩)
    go_ret
    exact ⟨rfl, rfl⟩
  obtain rfl : lh = ln := by simp at h4; omega
  clear h4
  have h5 : ((lu : Int) != (lh : Int)) = true := by simp; omega
  clear h
  go_enter Try.func9, Try.ntmps9
  go_wp2_with (go_at_call 21; refine (bytes_yes _ _ _ _ _ _ _ _ _ _ (by omega)).mono ?_; rintro e w' ⟨rfl, rfl⟩)
  go_ret
  exact ⟨rfl, rfl⟩
end Go.Proofs.Qxb6000709a

/- FnPixelMoreInkNeverLighter: the plain law and the walk. -/
import Derived.Test.Qxb6602453aPixel
import Derived.Deep.QuietTactic
import Derived.BigQuiet
namespace Go.Proofs.Qxb6602453a
open Go.RowKit

/-! The plain law -/
theorem cm_mono (a b c d : Int) (h1 : a ≤ c) (h2 : b ≤ d) (hc : c ≤ 255) (hb : b ≤ 255) : cm c d ≤ cm a b := by
  unfold cm
  refine Int.ediv_le_ediv (by omega) ?_
  by_cases hd : d ≤ 255
  · exact Int.mul_le_mul (by omega) (by omega) (by omega) (by omega)
  · have h3 : (255 - c) * (255 - d) ≤ 0 := Int.mul_nonpos_of_nonneg_of_nonpos (by omega) (by omega)
    have h4 : 0 ≤ (255 - a) * (255 - b) := Int.mul_nonneg (by omega) (by omega)
    omega

theorem dark_mono (za zb : List Int) (n : Nat) (h : ∀ i : Nat, i < n → za[i]?.getD 0 ≤ zb[i]?.getD 0) : dark n za ≤ dark n zb := by
  induction n with
  | zero => simp [dark]
  | succ n ih =>
    have h1 := ih (fun i hi => h i (by omega))
    have h2 := h n (by omega)
    simp only [dark]; omega

theorem dark_blank (za : List Int) (n : Nat) (h : ∀ i : Nat, i < n → za[i]?.getD 0 = 0) : dark n za = 0 := by
  induction n with
  | zero => simp [dark]
  | succ n ih =>
    have h1 := ih (fun i hi => h i (by omega))
    have h2 := h n (by omega)
    simp only [dark]; omega

/-- What the two pixels and the levels say of one another. -/
def Inky (U N : Nat) (za zb pa pb : List Int) : Prop :=
  ((∀ i : Nat, i < U → za[i]?.getD 0 ≤ zb[i]?.getD 0) → ∀ k : Nat, k < N → pb[k]?.getD 0 ≤ pa[k]?.getD 0) ∧
  ((∀ i : Nat, i < U → za[i]?.getD 0 = 0) → ∀ k : Nat, k < N → pa[k]?.getD 0 = 255)

theorem inky_cmyk (za zb : List Int) (ha : ∀ i : Nat, 0 ≤ za[i]?.getD 0 ∧ za[i]?.getD 0 ≤ 255) (hb : ∀ i : Nat, 0 ≤ zb[i]?.getD 0 ∧ zb[i]?.getD 0 ≤ 255) :
    Inky 4 3 za zb (cmTo 3 za [0, 0, 0]) (cmTo 3 zb [0, 0, 0]) := by
  constructor
  · intro h k hk
    have h0 := h 0 (by omega); have h1 := h 1 (by omega); have h2 := h 2 (by omega); have h3 := h 3 (by omega)
    have c0 := cm_mono _ _ _ _ h0 h3 (hb 0).2 (ha 3).2
    have c1 := cm_mono _ _ _ _ h1 h3 (hb 1).2 (ha 3).2
    have c2 := cm_mono _ _ _ _ h2 h3 (hb 2).2 (ha 3).2
    match k, hk with
    | 0, _ => simpa [cmTo] using c0
    | 1, _ => simpa [cmTo] using c1
    | 2, _ => simpa [cmTo] using c2
  · intro h k hk
    have h0 := h 0 (by omega); have h1 := h 1 (by omega); have h2 := h 2 (by omega); have h3 := h 3 (by omega)
    match k, hk with
    | 0, _ => simp [cmTo, h0, h3, cm]
    | 1, _ => simp [cmTo, h1, h3, cm]
    | 2, _ => simp [cmTo, h2, h3, cm]

theorem inky_tint (n : Nat) (za zb : List Int) : Inky n 1 za zb (List.set [0, 0, 0] 0 (255 - dark n za)) (List.set [0, 0, 0] 0 (255 - dark n zb)) := by
  constructor
  · intro h k hk
    have := dark_mono za zb n h
    obtain rfl : k = 0 := by omega
    simp; omega
  · intro h k hk
    have := dark_blank za n h
    obtain rfl : k = 0 := by omega
    simp; omega

/-! The walk -/
set_option maxHeartbeats 400000 in
theorem bytes4_yes (f c : Int) (a2 a3 : Option Addr) (len2 cap2 len3 cap3 : Nat) (w : World) (h : len2 + len3 ≤ 1048576) :
    Calls Try.prog 9 #[.int .i64 f, .int .i64 c, .slice a2 len2 cap2, .slice a3 len3 cap3] w fun e w' => e = .returned (.bool true) ∧ w' = w := by
  go_enter Try.func9, Try.ntmps9
  go_wp2
  go_ret
  exact ⟨rfl, rfl⟩

set_option maxHeartbeats 400000 in
theorem bytes4_no (f c : Int) (a2 a3 : Option Addr) (len2 cap2 len3 cap3 : Nat) (w : World) (h : 1048576 < len2 + len3) :
    Calls Try.prog 9 #[.int .i64 f, .int .i64 c, .slice a2 len2 cap2, .slice a3 len3 cap3] w fun e w' => e = .returned (.bool false) ∧ w' = w := by
  by_cases c2 : 1048576 < len2
  · go_enter Try.func9, Try.ntmps9
    go_wp2
    go_ret
    exact ⟨rfl, rfl⟩
  · by_cases c3 : 1048576 < len3
    · go_enter Try.func9, Try.ntmps9
      go_wp2
      go_ret
      exact ⟨rfl, rfl⟩
    · go_enter Try.func9, Try.ntmps9
      go_wp2
      go_ret
      exact ⟨rfl, rfl⟩

/-- The early ways out. -/
theorem ink_early (f c : Int) (a2 a3 : Option Addr) (len2 cap2 len3 cap3 : Nat) (w : World)
    (h : 1048576 < len2 + len3 ∨ 65536 < len2 ∨ 65536 < len3 ∨ (f ≠ 2 ∧ f ≠ 4) ∨ (f = 2 ∧ (len2 < 4 ∨ len3 < 4)) ∨ (f = 4 ∧ (c < 0 ∨ len2 < c ∨ len3 < c))) :
    Calls Try.prog 4 #[.int .i64 f, .int .i64 c, .slice a2 len2 cap2, .slice a3 len3 cap3] w fun e w' => e = .returned (.bool true) ∧ w' = w := by
  by_cases h0 : 1048576 < len2 + len3
  · go_enter Try.func4, Try.ntmps4
    go_wp2_with (go_at_call 9; refine (bytes4_no _ _ _ _ _ _ _ _ _ h0).mono ?_; rintro e w' ⟨rfl, rfl⟩)
    go_ret
    exact ⟨rfl, rfl⟩
  by_cases h1 : 65536 < len2
  · go_enter Try.func4, Try.ntmps4
    go_wp2_with (go_at_call 9; refine (bytes4_yes _ _ _ _ _ _ _ _ _ (by omega)).mono ?_; rintro e w' ⟨rfl, rfl⟩)
    go_ret
    exact ⟨rfl, rfl⟩
  by_cases h2 : 65536 < len3
  · go_enter Try.func4, Try.ntmps4
    go_wp2_with (go_at_call 9; refine (bytes4_yes _ _ _ _ _ _ _ _ _ (by omega)).mono ?_; rintro e w' ⟨rfl, rfl⟩)
    go_ret
    exact ⟨rfl, rfl⟩
  rcases h with h | h | h | ⟨hf, hf4⟩ | ⟨rfl, h⟩ | ⟨rfl, h⟩
  · omega
  · omega
  · omega
  · have e2 : (f == 2) = false := by simpa using hf
    have e4 : (f == 4) = false := by simpa using hf4
    clear hf hf4
    go_enter Try.func4, Try.ntmps4
    go_wp2_with (go_at_call 9; refine (bytes4_yes _ _ _ _ _ _ _ _ _ (by omega)).mono ?_; rintro e w' ⟨rfl, rfl⟩)
    go_ret
    exact ⟨rfl, rfl⟩
  · by_cases h4 : len2 < 4
    · clear h
      go_enter Try.func4, Try.ntmps4
      go_wp2_with (go_at_call 9; refine (bytes4_yes _ _ _ _ _ _ _ _ _ (by omega)).mono ?_; rintro e w' ⟨rfl, rfl⟩)
      go_ret
      exact ⟨rfl, rfl⟩
    · have h5 : len3 < 4 := by omega
      clear h
      go_enter Try.func4, Try.ntmps4
      go_wp2_with (go_at_call 9; refine (bytes4_yes _ _ _ _ _ _ _ _ _ (by omega)).mono ?_; rintro e w' ⟨rfl, rfl⟩)
      go_ret
      exact ⟨rfl, rfl⟩
  · by_cases h4 : c < 0
    · clear h
      go_enter Try.func4, Try.ntmps4
      go_wp2_with (go_at_call 9; refine (bytes4_yes _ _ _ _ _ _ _ _ _ (by omega)).mono ?_; rintro e w' ⟨rfl, rfl⟩)
      go_ret
      exact ⟨rfl, rfl⟩
    · by_cases h5 : (len2 : Int) < c
      · clear h
        go_enter Try.func4, Try.ntmps4
        go_wp2_with (go_at_call 9; refine (bytes4_yes _ _ _ _ _ _ _ _ _ (by omega)).mono ?_; rintro e w' ⟨rfl, rfl⟩)
        go_ret
        exact ⟨rfl, rfl⟩
      · have h6 : (len3 : Int) < c := by omega
        clear h
        go_enter Try.func4, Try.ntmps4
        go_wp2_with (go_at_call 9; refine (bytes4_yes _ _ _ _ _ _ _ _ _ (by omega)).mono ?_; rintro e w' ⟨rfl, rfl⟩)
        go_ret
        exact ⟨rfl, rfl⟩

theorem row_at {w : World} {a : Option Addr} {len cap : Nat} {ys : List Int} (h : Row8 w a len cap ys) (hp : 0 < len) :
    ∃ b off, a = some ⟨b, off, none⟩ ∧ len ≤ cap ∧ ∀ i, i < len → w.cell? ⟨b, off + i, none⟩ = some (.int .u8 (ys[i]?.getD 0)) := by
  obtain ⟨_, _, ⟨_, h, _⟩ | ⟨x, rfl, hl, hc⟩⟩ := h
  · omega
  · obtain ⟨b, off, spot⟩ := x
    have h0 := hc 0 hp
    have hspot : spot = none := by simpa [Addr.add] using World.cell?_spot h0
    subst hspot
    exact ⟨b, off, rfl, hl, fun i hi => by have := hc i hi; simp only [Addr.add] at this; split at this <;> simp_all⟩

end Go.Proofs.Qxb6602453a

/- The contracts of the pixel (function 10), family by family. -/
import Derived.Test.Qxb6602453aBase
namespace Go.Proofs.Qxb6602453a
open Go.RowKit

/-- The byte that CMYK writes. -/
def cm (a b : Int) : Int := (255 - a) * (255 - b) / 255

def cmTo : Nat → List Int → List Int → List Int
  | 0, _, zo => zo
  | k + 1, zl, zo => (cmTo k zl zo).set k (cm (zl[k]?.getD 0) (zl[3]?.getD 0))

theorem length_cmTo (k : Nat) (zl zo : List Int) : (cmTo k zl zo).length = zo.length := by
  induction k with
  | zero => rfl
  | succ k ih => simp [cmTo, ih]

theorem mul_bd (a b : Int) (a0 : 0 ≤ a) (a1 : a ≤ 255) (b0 : 0 ≤ b) (b1 : b ≤ 255) : 0 ≤ a * b ∧ a * b ≤ 65025 :=
  ⟨Int.mul_nonneg a0 b0, by have := Int.mul_le_mul a1 b1 b0 (by omega : (0 : Int) ≤ 255); omega⟩

set_option maxHeartbeats 400000 in
theorem pixel_cmyk (comps n hival : Int) (pa : Option Addr) (pl pc g l : Nat) (zo zl : List Int) (w : World)
    (ho : BRow w g zo) (hl : BRow w l zl) (hgl : l ≠ g) (h3 : 3 ≤ zo.length) (h4 : 4 ≤ zl.length) (hzo : zo.length ≤ 1048576) (hzl : zl.length ≤ 1048576)
    (hb : ∀ i : Nat, 0 ≤ zl[i]?.getD 0 ∧ zl[i]?.getD 0 ≤ 255) :
    Calls Try.prog 10 #[.agg #[.int .i64 2, .int .i64 comps, .int .i64 n, .int .i64 hival, .slice pa pl pc], .slice (some ⟨g, 0, none⟩) zo.length zo.length, .slice (some ⟨l, 0, none⟩) zl.length zl.length] w
      fun e w' => e = .returned (.tuple #[]) ∧ w.grownBy w' (some g) ∧ BRow w' g (cmTo 3 zl zo) := by
  have hc3 := hl.cell 3 (by omega)
  have hll := hl.lt
  have hgg := ho.lt
  have hb3a := (hb 3).1
  have hb3b := (hb 3).2
  have HB : Hid (∀ i : Nat, 0 ≤ zl[i]?.getD 0 ∧ zl[i]?.getD 0 ≤ 255) := hb
  clear hb
  go_enter Try.func10, Try.ntmps10
  go_wp2
  go_loopw [34] (fun i wr => ∃ k : Nat, k ≤ 3 ∧ i = .int .i64 k ∧ BRow wr g (cmTo k zl zo) ∧ BRow wr l zl ∧ w.grownBy wr (some g)) (fun i _ => 3 - (intOf i).toNat)
  case atStart => exact ⟨0, by omega, rfl, ho.later ((Below.refl _ _).alloc (Nat.le_refl _) _), hl.later ((Below.refl _ _).alloc (Nat.le_refl _) _), World.grownBy_alloc _ _ _⟩
  case round =>
    obtain ⟨k, hk, rfl, hgk, hlk, hgr⟩ := hrel
    by_cases hlt : k < 3
    · have hck := hlk.cell k (by omega)
      have hfk := hgk.frozen k
      have hcg := hgk.cell k (by rw [length_cmTo]; omega)
      have hba := (HB.out k).1
      have hbb := (HB.out k).2
      obtain ⟨m1, m2⟩ := mul_bd (255 - zl[k]?.getD 0) (255 - zl[3]?.getD 0) (by omega) (by omega) (by omega) (by omega)
      go_wp2
      go_roundw
      case rel => exact ⟨k + 1, by omega, by go_num, hgk.set k _, hlk.other hgl _, grow_trans hgr (grow_set _ _ _ _)⟩
      case measure => simp [intOf]; omega
    · go_wp2
      go_end0
      obtain rfl : k = 3 := by omega
      exact ⟨rfl, hgr, hgk⟩

/-- The darkest of the first k levels. -/
def dark : Nat → List Int → Int
  | 0, _ => 0
  | k + 1, zl => max (dark k zl) (zl[k]?.getD 0)

theorem dark_bd (zl : List Int) (hb : ∀ i : Nat, 0 ≤ zl[i]?.getD 0 ∧ zl[i]?.getD 0 ≤ 255) (k : Nat) : 0 ≤ dark k zl ∧ dark k zl ≤ 255 := by
  induction k with
  | zero => simp [dark]
  | succ k ih => have := hb k; simp only [dark]; omega

set_option maxHeartbeats 400000 in
theorem pixel_tint (n hival : Int) (comps : Nat) (pa : Option Addr) (pl pc g l : Nat) (zo zl : List Int) (w : World)
    (ho : BRow w g zo) (hl : BRow w l zl) (_hgl : l ≠ g) (h3 : 1 ≤ zo.length) (h4 : comps ≤ zl.length) (hzo : zo.length ≤ 1048576) (hzl : zl.length ≤ 1048576)
    (hb : ∀ i : Nat, 0 ≤ zl[i]?.getD 0 ∧ zl[i]?.getD 0 ≤ 255) :
    Calls Try.prog 10 #[.agg #[.int .i64 4, .int .i64 comps, .int .i64 n, .int .i64 hival, .slice pa pl pc], .slice (some ⟨g, 0, none⟩) zo.length zo.length, .slice (some ⟨l, 0, none⟩) zl.length zl.length] w
      fun e w' => e = .returned (.tuple #[]) ∧ w.grownBy w' (some g) ∧ BRow w' g (zo.set 0 (255 - dark comps zl)) := by
  have hll := hl.lt
  have hgg := ho.lt
  have HB : Hid (∀ i : Nat, 0 ≤ zl[i]?.getD 0 ∧ zl[i]?.getD 0 ≤ 255) := hb
  clear hb
  go_enter Try.func10, Try.ntmps10
  go_wp2
  go_loop [8, 58] (fun d i => ∃ k : Nat, k ≤ comps ∧ i = .int .i64 k ∧ d = .int .u8 (dark k zl)) (fun _ i => comps - (intOf i).toNat)
  case atStart => exact ⟨0, by omega, rfl, rfl⟩
  case round =>
    obtain ⟨k, hk, rfl, rfl⟩ := hrel
    have hd := dark_bd zl HB.out k
    have hd1 := hd.1
    have hd2 := hd.2
    clear hd
    by_cases hlt : k < comps
    · have hck := hl.cell k (by omega)
      go_wp2
      go_round
      case rel => exact ⟨k + 1, by omega, by go_num, by simp only [dark]; congr 1; split <;> omega⟩
      case measure => simp [intOf]; omega
    · have hfk := ho.frozen 0
      have hcg := ho.cell 0 (by omega)
      go_wp2
      go_end0
      obtain rfl : k = comps := by omega
      exact ⟨rfl, grow_below (grow_set _ _ _ _) ((Below.refl _ _).alloc (Nat.le_refl _) _), (ho.set 0 _).later ((Below.refl _ _).alloc (Nat.le_refl _) _)⟩

set_option maxHeartbeats 400000 in
/-- Tint at no component and a nil row of levels. -/
theorem pixel_tint_nil (n hival : Int) (pa : Option Addr) (pl pc g : Nat) (zo : List Int) (w : World)
    (ho : BRow w g zo) (h3 : 1 ≤ zo.length) (hzo : zo.length ≤ 1048576) :
    Calls Try.prog 10 #[.agg #[.int .i64 4, .int .i64 0, .int .i64 n, .int .i64 hival, .slice pa pl pc], .slice (some ⟨g, 0, none⟩) zo.length zo.length, .slice none 0 0] w
      fun e w' => e = .returned (.tuple #[]) ∧ w.grownBy w' (some g) ∧ BRow w' g (zo.set 0 255) := by
  have hgg := ho.lt
  have hfk := ho.frozen 0
  have hcg := ho.cell 0 (by omega)
  go_enter Try.func10, Try.ntmps10
  go_wp2
  refine wp_loop_rounds 1 ?_
  rw [rounds_succ]
  go_wp2
  go_end0
  exact ⟨rfl, grow_below (grow_set _ _ _ _) ((Below.refl _ _).alloc (Nat.le_refl _) _), (ho.set 0 _).later ((Below.refl _ _).alloc (Nat.le_refl _) _)⟩

set_option maxHeartbeats 400000 in
/-- Grey and Lab. -/
theorem pixel_grey (fam comps n hival : Int) (hfam : fam = 0 ∨ fam = 3) (pa : Option Addr) (pl pc g l : Nat) (zo zl : List Int) (w : World)
    (ho : BRow w g zo) (hl : BRow w l zl) (_hgl : l ≠ g) (h3 : 1 ≤ zo.length) (h4 : 1 ≤ zl.length) (hzo : zo.length ≤ 1048576) (hzl : zl.length ≤ 1048576) :
    Calls Try.prog 10 #[.agg #[.int .i64 fam, .int .i64 comps, .int .i64 n, .int .i64 hival, .slice pa pl pc], .slice (some ⟨g, 0, none⟩) zo.length zo.length, .slice (some ⟨l, 0, none⟩) zl.length zl.length] w
      fun e w' => e = .returned (.tuple #[]) ∧ w.grownBy w' (some g) ∧ BRow w' g (zo.set 0 (zl[0]?.getD 0)) := by
  have hgg := ho.lt
  have hll := hl.lt
  have hfk := ho.frozen 0
  have hcg := ho.cell 0 (by omega)
  have hcl := hl.cell 0 (by omega)
  rcases hfam with rfl | rfl
  all_goals
    go_enter Try.func10, Try.ntmps10
    go_wp2
    go_end0
    exact ⟨rfl, grow_below (grow_set _ _ _ _) ((Below.refl _ _).alloc (Nat.le_refl _) _), (ho.set 0 _).later ((Below.refl _ _).alloc (Nat.le_refl _) _)⟩

set_option maxHeartbeats 400000 in
/-- No family: nothing is written. -/
theorem pixel_none (fam comps n hival : Int) (h0 : fam < 0 ∨ 5 < fam) (pa oa la : Option Addr) (pl pc ol oc ll lc : Nat) (w : World) :
    Calls Try.prog 10 #[.agg #[.int .i64 fam, .int .i64 comps, .int .i64 n, .int .i64 hival, .slice pa pl pc], .slice oa ol oc, .slice la ll lc] w
      fun e w' => e = .returned (.tuple #[]) ∧ Below w.heap.size w w' := by
  have e0 : (fam == 0) = false := by simp; omega
  have e1 : (fam == 1) = false := by simp; omega
  have e2 : (fam == 2) = false := by simp; omega
  have e3 : (fam == 3) = false := by simp; omega
  have e4 : (fam == 4) = false := by simp; omega
  have e5 : (fam == 5) = false := by simp; omega
  go_enter Try.func10, Try.ntmps10
  go_wp2
  go_end0
  exact ⟨rfl, (Below.refl _ _).alloc (Nat.le_refl _) _⟩

set_option maxHeartbeats 400000 in
/-- Function 7 hands its arguments on to the pixel. -/
theorem zz_of (fam comps n hival : Int) (pa oa la : Option Addr) (pl pc ol oc ll lc g : Nat) (zo' : List Int) (w : World)
    (h : ∀ w1, Below w.heap.size w w1 → Calls Try.prog 10 #[.agg #[.int .i64 fam, .int .i64 comps, .int .i64 n, .int .i64 hival, .slice pa pl pc], .slice oa ol oc, .slice la ll lc] w1
      fun e w' => e = .returned (.tuple #[]) ∧ w1.grownBy w' (some g) ∧ BRow w' g zo') :
    Calls Try.prog 7 #[.int .i64 fam, .int .i64 comps, .int .i64 n, .int .i64 hival, .slice pa pl pc, .slice oa ol oc, .slice la ll lc] w
      fun e w' => e = .returned (.tuple #[]) ∧ w.grownBy w' (some g) ∧ BRow w' g zo' := by
  have H : Hid _ := h
  clear h
  go_enter Try.func7, Try.ntmps7
  go_wp2_with fail
  have hb : Below w.heap.size w (w.alloc (.cells #[.int .i64 fam, .int .i64 comps, .int .i64 n, .int .i64 hival, .slice pa pl pc] 30)) := (Below.refl _ _).alloc (Nat.le_refl _) _
  refine (H.out _ hb).mono ?_
  rintro e w' ⟨rfl, hg, hr⟩
  go_wp2
  go_end0
  exact ⟨rfl, below_grow hb hg, hr⟩

set_option maxHeartbeats 400000 in
theorem zz_below (fam comps n hival : Int) (pa oa la : Option Addr) (pl pc ol oc ll lc : Nat) (w : World)
    (h : ∀ w1, Calls Try.prog 10 #[.agg #[.int .i64 fam, .int .i64 comps, .int .i64 n, .int .i64 hival, .slice pa pl pc], .slice oa ol oc, .slice la ll lc] w1
      fun e w' => e = .returned (.tuple #[]) ∧ Below w1.heap.size w1 w') :
    Calls Try.prog 7 #[.int .i64 fam, .int .i64 comps, .int .i64 n, .int .i64 hival, .slice pa pl pc, .slice oa ol oc, .slice la ll lc] w
      fun e w' => e = .returned (.tuple #[]) ∧ Below w.heap.size w w' := by
  have H : Hid _ := h
  clear h
  go_enter Try.func7, Try.ntmps7
  go_wp2_with fail
  have hb : Below w.heap.size w (w.alloc (.cells #[.int .i64 fam, .int .i64 comps, .int .i64 n, .int .i64 hival, .slice pa pl pc] 30)) := (Below.refl _ _).alloc (Nat.le_refl _) _
  refine (H.out _).mono ?_
  rintro e w' ⟨rfl, hg⟩
  go_wp2
  go_end0
  exact ⟨rfl, hb.trans (hg.mono hb.size)⟩

theorem zz_cmyk (comps n hival : Int) (pa : Option Addr) (pl pc g l ol ll : Nat) (zo zl : List Int) (w : World) (hol : zo.length = ol) (hll : zl.length = ll)
    (ho : BRow w g zo) (hl : BRow w l zl) (hgl : l ≠ g) (h3 : 3 ≤ ol) (h4 : 4 ≤ ll) (hzo : ol ≤ 1048576) (hzl : ll ≤ 1048576)
    (hb : ∀ i : Nat, 0 ≤ zl[i]?.getD 0 ∧ zl[i]?.getD 0 ≤ 255) :
    Calls Try.prog 7 #[.int .i64 2, .int .i64 comps, .int .i64 n, .int .i64 hival, .slice pa pl pc, .slice (some ⟨g, 0, none⟩) ol ol, .slice (some ⟨l, 0, none⟩) ll ll] w
      fun e w' => e = .returned (.tuple #[]) ∧ w.grownBy w' (some g) ∧ BRow w' g (cmTo 3 zl zo) := by
  subst hol; subst hll
  exact zz_of 2 comps n hival pa _ _ pl pc _ _ _ _ g _ w (fun w1 hw1 => pixel_cmyk comps n hival pa pl pc g l zo zl w1 (ho.later hw1) (hl.later hw1) hgl h3 h4 hzo hzl hb)

theorem zz_tint (n hival : Int) (comps : Nat) (pa : Option Addr) (pl pc g l ol ll : Nat) (zo zl : List Int) (w : World) (hol : zo.length = ol) (hll : zl.length = ll)
    (ho : BRow w g zo) (hl : BRow w l zl) (hgl : l ≠ g) (h3 : 1 ≤ ol) (h4 : comps ≤ ll) (hzo : ol ≤ 1048576) (hzl : ll ≤ 1048576)
    (hb : ∀ i : Nat, 0 ≤ zl[i]?.getD 0 ∧ zl[i]?.getD 0 ≤ 255) :
    Calls Try.prog 7 #[.int .i64 4, .int .i64 comps, .int .i64 n, .int .i64 hival, .slice pa pl pc, .slice (some ⟨g, 0, none⟩) ol ol, .slice (some ⟨l, 0, none⟩) ll ll] w
      fun e w' => e = .returned (.tuple #[]) ∧ w.grownBy w' (some g) ∧ BRow w' g (zo.set 0 (255 - dark comps zl)) := by
  subst hol; subst hll
  exact zz_of 4 comps n hival pa _ _ pl pc _ _ _ _ g _ w (fun w1 hw1 => pixel_tint n hival comps pa pl pc g l zo zl w1 (ho.later hw1) (hl.later hw1) hgl h3 h4 hzo hzl hb)

theorem zz_tint0 (n hival : Int) (pa : Option Addr) (pl pc g l ol ll : Nat) (la : Option Addr) (zo zl : List Int) (w : World) (hol : zo.length = ol) (hll : zl.length = ll)
    (ho : BRow w g zo) (hl : Cloned w la l zl) (hgl : ∀ x, la = some x → l ≠ g) (h3 : 1 ≤ ol) (hzo : ol ≤ 1048576) (hzl : ll ≤ 1048576)
    (hb : ∀ i : Nat, 0 ≤ zl[i]?.getD 0 ∧ zl[i]?.getD 0 ≤ 255) :
    Calls Try.prog 7 #[.int .i64 4, .int .i64 0, .int .i64 n, .int .i64 hival, .slice pa pl pc, .slice (some ⟨g, 0, none⟩) ol ol, .slice la ll ll] w
      fun e w' => e = .returned (.tuple #[]) ∧ w.grownBy w' (some g) ∧ BRow w' g (zo.set 0 255) := by
  rcases hl with ⟨rfl, rfl⟩ | ⟨rfl, hl⟩
  · subst hol; subst hll
    exact zz_of 4 0 n hival pa _ _ pl pc _ _ _ _ g _ w (fun w1 hw1 => pixel_tint_nil n hival pa pl pc g zo w1 (ho.later hw1) h3 hzo)
  · exact zz_tint n hival 0 pa pl pc g l ol ll zo zl w hol hll ho hl (hgl _ rfl) h3 (Nat.zero_le _) hzo hzl hb
end Go.Proofs.Qxb6602453a

/- stepsModel (function 11): it counts what the steps count. -/
import Derived.Test.Qxb6602484aBase
namespace Go.Proofs.Qxb6602484a
set_option linter.unusedVariables false
open Go.RowKit

set_option maxHeartbeats 400000 in
theorem model_plain (ba : Option Addr) (len cap : Nat) (w : World) :
    Calls Try.prog 11 #[.bool false, .slice ba len cap] w fun e w' => e = .returned (.int .i64 1) ∧ w' = w := by
  go_enter Try.func11, Try.ntmps11
  go_wp2
  go_ret
  exact ⟨rfl, rfl⟩

set_option maxHeartbeats 400000 in
theorem model_none (ba : Option Addr) (cap : Nat) (w : World) :
    Calls Try.prog 11 #[.bool true, .slice ba 0 cap] w fun e w' => e = .returned (.int .i64 0) ∧ w' = w := by
  go_enter Try.func11, Try.ntmps11
  go_wp2
  refine wp_loop_rounds 1 ?_
  rw [rounds_succ]
  go_wp2
  go_ret
  exact ⟨rfl, rfl⟩

set_option maxHeartbeats 1000000 in
theorem model_row (b off len cap : Nat) (ys : List Int) (w : World) (hl : len ≤ 1048576)
    (hc : ∀ i, i < len → w.cell? ⟨b, off + i, none⟩ = some (.int .u8 (ys[i]?.getD 0))) :
    Calls Try.prog 11 #[.bool true, .slice (some ⟨b, off, none⟩) len cap] w fun e w' => e = .returned (.int .i64 (cnt len ys)) ∧ w' = w := by
  have HC : Hid (∀ i, i < len → w.cell? ⟨b, off + i, none⟩ = some (.int .u8 (ys[i]?.getD 0))) := hc
  clear hc
  go_enter Try.func11, Try.ntmps11
  go_wp2
  go_loop [5, 6] (fun n i => ∃ k : Nat, k ≤ len ∧ i = .int .i64 k ∧ n = .int .i64 (cnt k ys)) (fun _ i => len - (intOf i).toNat)
  case atStart => exact ⟨0, by omega, rfl, rfl⟩
  case round =>
    obtain ⟨k, hk, rfl, rfl⟩ := hrel
    obtain ⟨hd1, hd2⟩ := cnt_bd ys k
    by_cases hlt : k < len
    · go_wp2
      go_loop [7] (fun i => ∃ j : Nat, k ≤ j ∧ j ≤ len ∧ i = .int .i64 j ∧ Hid (cnt j ys = cnt k ys)) (fun i => len - (intOf i).toNat)
      case atStart => exact ⟨k, by omega, by omega, rfl, rfl⟩
      case round =>
        obtain ⟨j, hkj, hj, rfl, HJ⟩ := hrel
        by_cases hjl : j < len
        · have h1 := HC.out j hjl
          have hji : (j : Int) < (len : Int) := by omega
          by_cases hz : 128 ≤ ys[j]?.getD 0
          · go_wp2
            go_round
            case rel => exact ⟨j + 1, by omega, by omega, by go_num, by show cnt (j + 1) ys = _; simp only [cnt]; rw [if_neg (by omega), Int.add_zero]; exact HJ.out⟩
            case measure => simp [intOf]; omega
          · have hne : ((j : Int) == (len : Int)) = false := by simp; omega
            go_wp2
            go_round
            case rel => exact ⟨j + 1, by omega, by go_num, by simp only [cnt]; rw [if_pos (by omega), HJ.out]⟩
            case measure => simp [intOf]; omega
        · obtain rfl : len = j := by omega
          have HJ' := HJ.out
          have HE : Hid (cnt len ys = cnt k ys) := HJ'
          clear HJ'
          go_wp2
          go_ret
          rw [HE.out]
          exact ⟨rfl, rfl⟩
    · obtain rfl : len = k := by omega
      go_wp2
      go_ret
      exact ⟨rfl, rfl⟩

theorem model_any (c : Bool) (ba : Option Addr) (len cap : Nat) (ys : List Int) (w : World) (hl : len ≤ 1048576) (h : Row8 w ba len cap ys) :
    Calls Try.prog 11 #[.bool c, .slice ba len cap] w fun e w' => e = .returned (.int .i64 (stepsOf c len ys)) ∧ w' = w := by
  cases c with
  | false => exact model_plain ba len cap w
  | true =>
    by_cases h0 : len = 0
    · subst h0
      exact model_none ba cap w
    · obtain ⟨b, off, rfl, _, hc⟩ := row_at h (by omega)
      exact model_row b off len cap ys w hl hc
end Go.Proofs.Qxb6602484a

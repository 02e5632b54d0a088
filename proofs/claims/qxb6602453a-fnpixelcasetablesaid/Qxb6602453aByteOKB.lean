/- The contracts of zzPixelByteOK (function 8): tint and indexed. -/
import Derived.Test.Qxb6602453aByteOK
namespace Go.Proofs.Qxb6602453a
set_option linter.unusedVariables false
open Go.RowKit

theorem dark_ge (L : List Int) (n q : Nat) (h : q < n) : L[q]?.getD 0 ≤ dark n L := by
  induction n with
  | zero => omega
  | succ n ih =>
    simp only [dark]
    by_cases hq : q = n
    · subst hq; omega
    · have := ih (by omega); omega

theorem dark_hit (L : List Int) (hb : ∀ i : Nat, 0 ≤ L[i]?.getD 0) (n : Nat) (h : 0 < n) : ∃ q, q < n ∧ L[q]?.getD 0 = dark n L := by
  induction n with
  | zero => omega
  | succ n ih =>
    simp only [dark]
    by_cases hn : 0 < n
    · obtain ⟨q, hq, e⟩ := ih hn
      by_cases hm : dark n L ≤ L[n]?.getD 0
      · exact ⟨n, by omega, by omega⟩
      · exact ⟨q, by omega, by omega⟩
    · obtain rfl : n = 0 := by omega
      have := hb 0
      exact ⟨0, by omega, by simp only [dark]; omega⟩

set_option maxHeartbeats 800000 in
theorem ok_tint0 (n : Int) (pa oa la : Option Addr) (pl pc ll lc ol oc gl g : Nat) (w : World)
    (hg : w.cell? ⟨g, 0, none⟩ = some (.int .u8 255)) (hgl : 0 < gl) :
    Calls Try.prog 8 #[.int .i64 4, .int .i64 0, .int .i64 n, .slice pa pl pc, .slice oa ol oc, .slice la ll lc, .slice (some ⟨g, 0, none⟩) gl gl, .int .i64 0] w
      fun e w' => e = .returned (.bool true) ∧ Below w.heap.size w w' := by
  have h2 : (0 : Int) < (gl : Int) := by omega
  go_enter Try.func8, Try.ntmps8
  go_wp2
  refine wp_loop_rounds 1 ?_
  rw [rounds_succ]
  go_wp2
  go_ret
  exact ⟨rfl, Below.refl _ _⟩

set_option maxHeartbeats 800000 in
theorem ok_tint (n : Int) (comps : Nat) (pa oa : Option Addr) (pl pc ll ol oc gl l g : Nat) (L : List Int) (v : Int) (w : World) (hc : 0 < comps) (hcl : comps ≤ ll) (hll : ll ≤ 65536)
    (hL : ∀ i, i < ll → w.cell? ⟨l, i, none⟩ = some (.int .u8 (L[i]?.getD 0))) (hb : ∀ i : Nat, 0 ≤ L[i]?.getD 0 ∧ L[i]?.getD 0 ≤ 255) (v0 : 0 ≤ v) (v1 : v ≤ 255)
    (hle : ∀ q, q < comps → L[q]?.getD 0 + v ≤ 255) (hhit : ∃ q, q < comps ∧ L[q]?.getD 0 + v = 255)
    (hg : w.cell? ⟨g, 0, none⟩ = some (.int .u8 v)) (hgl : 0 < gl) :
    Calls Try.prog 8 #[.int .i64 4, .int .i64 comps, .int .i64 n, .slice pa pl pc, .slice oa ol oc, .slice (some ⟨l, 0, none⟩) ll ll, .slice (some ⟨g, 0, none⟩) gl gl, .int .i64 0] w
      fun e w' => e = .returned (.bool true) ∧ Below w.heap.size w w' := by
  have h2 : (0 : Int) < (gl : Int) := by omega
  have HL : Hid (∀ i, i < ll → w.cell? ⟨l, i, none⟩ = some (.int .u8 (L[i]?.getD 0))) := hL
  have HB : Hid (∀ i : Nat, 0 ≤ L[i]?.getD 0 ∧ L[i]?.getD 0 ≤ 255) := hb
  have HLE : Hid (∀ q, q < comps → L[q]?.getD 0 + v ≤ 255) := hle
  have HH : Hid (∃ q, q < comps ∧ L[q]?.getD 0 + v = 255) := hhit
  have hz : ((comps : Int) == 0) = false := by simp; omega
  clear hL hb hle hhit
  go_enter Try.func8, Try.ntmps8
  go_wp2
  go_loop [20, 21] (fun r q => ∃ (k : Nat) (rb : Bool), k ≤ comps ∧ q = .int .i64 k ∧ r = .bool rb ∧ Hid ((∃ i, i < k ∧ L[i]?.getD 0 + v = 255) → rb = true)) (fun _ q => comps - (intOf q).toNat)
  case atStart => exact ⟨0, false, by omega, rfl, rfl, fun ⟨i, hi, _⟩ => by omega⟩
  case round =>
    obtain ⟨k, rb, hk, rfl, rfl, HR⟩ := hrel
    by_cases hlt : k < comps
    · have h3 := HL.out k (by omega)
      have h4 := (HB.out k).1
      have h5 := (HB.out k).2
      have h6 := HLE.out k hlt
      have h7 : (k : Int) < (ll : Int) := by omega
      by_cases hz : (L[k]?.getD 0 + v == 255) = true
      · go_wp2
        go_round
        case rel => exact ⟨k + 1, true, by omega, by go_num, rfl, fun _ => rfl⟩
        case measure => simp [intOf]; omega
      · have hz' : (L[k]?.getD 0 + v == 255) = false := by simpa using hz
        have hz2 : L[k]?.getD 0 + v ≠ 255 := by simpa using hz
        have HZ : Hid (L[k]?.getD 0 + v ≠ 255) := hz2
        clear hz hz2
        go_wp2
        go_round
        case rel => exact ⟨k + 1, rb, by omega, by go_num, rfl, fun ⟨i, hi, e⟩ => HR.out ⟨i, by rcases Nat.lt_succ_iff_lt_or_eq.1 hi with h' | rfl; exact h'; exact absurd e HZ.out, e⟩⟩
        case measure => simp [intOf]; omega
    · obtain rfl : comps = k := by omega
      obtain rfl := HR.out HH.out
      go_wp2
      go_ret
      exact ⟨rfl, Below.refl _ _⟩

set_option maxRecDepth 100000 in
set_option maxHeartbeats 800000 in
/-- Indexed, a byte that was copied. -/
theorem ok_idx (comps : Int) (n base p l g j pl ll gl ol oc : Nat) (oa : Option Addr) (L0 v : Int) (w : World)
    (hcl : w.cell? ⟨l, 0, none⟩ = some (.int .u8 L0)) (h0 : 0 ≤ L0) (h255 : L0 ≤ 255) (hbase : L0 * (n : Int) = (base : Int)) (hll : 0 < ll) (hbp : base ≤ pl) (hpl : pl ≤ 65536) (hn : n ≤ 65536)
    (hj1 : j < n) (hj2 : base + j < pl) (hjg : j < gl)
    (hp : w.cell? ⟨p, base + j, none⟩ = some (.int .u8 v)) (hg : w.cell? ⟨g, j, none⟩ = some (.int .u8 v)) :
    Calls Try.prog 8 #[.int .i64 5, .int .i64 comps, .int .i64 n, .slice (some ⟨p, 0, none⟩) pl pl, .slice oa ol oc, .slice (some ⟨l, 0, none⟩) ll ll, .slice (some ⟨g, 0, none⟩) gl gl, .int .i64 j] w
      fun e w' => e = .returned (.bool true) ∧ Below w.heap.size w w' := by
  have h1 : (0 : Int) < (ll : Int) := by omega
  have h2 : (j : Int) < (gl : Int) := by omega
  have h3 : (base : Int) + (j : Int) < (pl : Int) := by omega
  by_cases hm : (n : Int) < (pl : Int) - (base : Int)
  all_goals
    go_enter Try.func8, Try.ntmps8
    go_wp2_with fail
    go_quiet (fail)
    go_wp2
    go_ret
    exact ⟨rfl, below_drewN (Below.refl _ _) _⟩

set_option maxRecDepth 100000 in
set_option maxHeartbeats 800000 in
/-- Indexed, a byte that was not copied. -/
theorem ok_idx_same (comps : Int) (n base l g o j pl ll ol : Nat) (pa : Option Addr) (L0 v : Int) (w : World)
    (hcl : w.cell? ⟨l, 0, none⟩ = some (.int .u8 L0)) (h0 : 0 ≤ L0) (h255 : L0 ≤ 255) (hbase : L0 * (n : Int) = (base : Int)) (hll : 0 < ll) (hbp : base ≤ pl) (hpl : pl ≤ 65536) (hn : n ≤ 65536)
    (hj : n ≤ j ∨ pl ≤ base + j) (hjg : j < ol)
    (ho : w.cell? ⟨o, j, none⟩ = some (.int .u8 v)) (hg : w.cell? ⟨g, j, none⟩ = some (.int .u8 v)) :
    Calls Try.prog 8 #[.int .i64 5, .int .i64 comps, .int .i64 n, .slice pa pl pl, .slice (some ⟨o, 0, none⟩) ol ol, .slice (some ⟨l, 0, none⟩) ll ll, .slice (some ⟨g, 0, none⟩) ol ol, .int .i64 j] w
      fun e w' => e = .returned (.bool true) ∧ Below w.heap.size w w' := by
  have h1 : (0 : Int) < (ll : Int) := by omega
  have h2 : (j : Int) < (ol : Int) := by omega
  by_cases hm : (n : Int) < (pl : Int) - (base : Int)
  · have h3 : (n : Int) ≤ (j : Int) := by omega
    clear hj
    go_enter Try.func8, Try.ntmps8
    go_wp2_with fail
    go_quiet (fail)
    go_wp2
    go_ret
    exact ⟨rfl, below_drewN (Below.refl _ _) _⟩
  · have h3 : (pl : Int) - (base : Int) ≤ (j : Int) := by omega
    clear hj
    go_enter Try.func8, Try.ntmps8
    go_wp2_with fail
    go_quiet (fail)
    go_wp2
    go_ret
    exact ⟨rfl, below_drewN (Below.refl _ _) _⟩
end Go.Proofs.Qxb6602453a

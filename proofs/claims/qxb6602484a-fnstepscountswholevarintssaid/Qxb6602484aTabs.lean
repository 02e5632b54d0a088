/- Tables of rows of bytes: what is known of one that came in; zzBytes (function 5), stepsInputBytes (function 6). -/
import Derived.Test.Qxb6602484aBase
namespace Go.Proofs.Qxb6602484a
set_option linter.unusedVariables false
open Go.RowKit

/-- A table that came in: element i is the slice (A i, L i, C i), whose bytes are Y i. -/
def Tab (w : World) (a : Option Addr) (len : Nat) (A : Nat → Option Addr) (L C : Nat → Nat) (Y : Nat → List Int) : Prop :=
  (0 < len → ∃ b off, a = some ⟨b, off, none⟩ ∧ ∀ i, i < len → w.cell? ⟨b, off + i, none⟩ = some (.slice (A i) (L i) (C i))) ∧
  ∀ i, i < len → Row8 w (A i) (L i) (C i) (Y i)

theorem Tab.at {w w' : World} {a : Option Addr} {len : Nat} {A : Nat → Option Addr} {L C : Nat → Nat} {Y : Nat → List Int} (h : Tab w a len A L C Y) (hb : Below w.heap.size w w') (k : Nat) (hk : k < len) :
    ∃ b off, a = some ⟨b, off, none⟩ ∧ w'.cell? ⟨b, off + k, none⟩ = some (.slice (A k) (L k) (C k)) := by
  obtain ⟨b, off, e, hc⟩ := h.1 (by omega)
  exact ⟨b, off, e, cell_later hb (hc k hk)⟩

/-- What zzBytes says. -/
def Said5 (w : World) (lp ls lb : Nat) (L L' : Nat → Nat) (e : Ending) (w' : World) : Prop :=
  ∃ b : Bool, e = .returned (.bool b) ∧ w' = w ∧ (b = true → (∀ i, i < lp → L i ≤ 1048576) ∧ (∀ i, i < ls → L' i ≤ 1048576) ∧ lb ≤ 1048576)

theorem said5_no (w : World) (lp ls lb : Nat) (L L' : Nat → Nat) : Said5 w lp ls lb L L' (.returned (.bool false)) w := ⟨false, rfl, rfl, fun h => by cases h⟩

theorem said5_yes (w : World) (lp ls lb : Nat) (L L' : Nat → Nat) (h : (∀ i, i < lp → L i ≤ 1048576) ∧ (∀ i, i < ls → L' i ≤ 1048576) ∧ lb ≤ 1048576) : Said5 w lp ls lb L L' (.returned (.bool true)) w := ⟨true, rfl, rfl, fun _ => h⟩

set_option maxHeartbeats 1000000 in
theorem bytes5 (c ex : Bool) (ms : Int) (ah ap aq ab : Option Addr) (lh ch lp cp ls cs lb cb : Nat) (A A' : Nat → Option Addr) (L C L' C' : Nat → Nat) (Y Y' : Nat → List Int) (w : World)
    (hp : Tab w ap lp A L C Y) (hs : Tab w aq ls A' L' C' Y') :
    Calls Try.prog 5 #[.bool c, .slice ah lh ch, .slice ap lp cp, .slice aq ls cs, .int .i64 ms, .bool ex, .slice ab lb cb] w
      fun e w' => Said5 w lp ls lb L L' e w' := by
  have HP : Hid (Tab w ap lp A L C Y) := hp
  have HS : Hid (Tab w aq ls A' L' C' Y') := hs
  clear hp hs
  by_cases c1 : 1048576 < lh
  · go_enter Try.func5, Try.ntmps5
    go_wp2
    go_ret
    exact said5_no _ _ _ _ _ _
  by_cases c2 : 1048576 < lp
  · go_enter Try.func5, Try.ntmps5
    go_wp2
    go_ret
    exact said5_no _ _ _ _ _ _
  by_cases c3 : 1048576 < lh + lp
  · go_enter Try.func5, Try.ntmps5
    go_wp2
    go_ret
    exact said5_no _ _ _ _ _ _
  go_enter Try.func5, Try.ntmps5
  go_wp2
  go_loop [15, 16] (fun t i => ∃ (k : Nat) (z : Int), k ≤ lp ∧ i = .int .i64 k ∧ t = .int .i64 z ∧ 0 ≤ z ∧ z ≤ 1048576 ∧ Hid (∀ i, i < k → L i ≤ 1048576)) (fun _ i => lp - (intOf i).toNat)
  case atStart => exact ⟨0, _, by omega, rfl, rfl, by omega, by omega, fun i hi => by omega⟩
  case round =>
    obtain ⟨k, z, hk, rfl, rfl, z0, z1, HL⟩ := hrel
    by_cases hlt : k < lp
    · obtain ⟨b, off, e, hc⟩ := HP.out.at (Below.refl _ _) k hlt
      subst e
      have hki : (k : Int) < (lp : Int) := by omega
      by_cases d1 : 1048576 < L k
      · go_wp2
        go_ret
        exact said5_no _ _ _ _ _ _
      · by_cases d2 : 1048576 < z + (L k : Int)
        · go_wp2
          go_ret
          exact said5_no _ _ _ _ _ _
        · go_wp2
          go_round
          case rel => exact ⟨k + 1, z + (L k : Int), by omega, by go_num, rfl, by omega, by omega, fun i hi => by rcases Nat.lt_succ_iff_lt_or_eq.1 hi with h | rfl; exact HL.out i h; omega⟩
          case measure => simp [intOf]; omega
    · obtain rfl : lp = k := by omega
      by_cases e1 : 1048576 < ls
      · go_wp2
        go_ret
        exact said5_no _ _ _ _ _ _
      by_cases e2 : 1048576 < z + (ls : Int)
      · go_wp2
        go_ret
        exact said5_no _ _ _ _ _ _
      go_wp2
      go_loop [15, 17] (fun t i => ∃ (k : Nat) (z : Int), k ≤ ls ∧ i = .int .i64 k ∧ t = .int .i64 z ∧ 0 ≤ z ∧ z ≤ 1048576 ∧ Hid (∀ i, i < k → L' i ≤ 1048576)) (fun _ i => ls - (intOf i).toNat)
      case atStart => exact ⟨0, _, by omega, rfl, rfl, by omega, by omega, fun i hi => by omega⟩
      case round =>
        obtain ⟨k, z, hk, rfl, rfl, z0, z1, HL'⟩ := hrel
        by_cases hlt : k < ls
        · obtain ⟨b, off, e, hc⟩ := HS.out.at (Below.refl _ _) k hlt
          subst e
          have hki : (k : Int) < (ls : Int) := by omega
          by_cases d1 : 1048576 < L' k
          · go_wp2
            go_ret
            exact said5_no _ _ _ _ _ _
          · by_cases d2 : 1048576 < z + (L' k : Int)
            · go_wp2
              go_ret
              exact said5_no _ _ _ _ _ _
            · go_wp2
              go_round
              case rel => exact ⟨k + 1, z + (L' k : Int), by omega, by go_num, rfl, by omega, by omega, fun i hi => by rcases Nat.lt_succ_iff_lt_or_eq.1 hi with h | rfl; exact HL'.out i h; omega⟩
              case measure => simp [intOf]; omega
        · obtain rfl : ls = k := by omega
          by_cases f1 : 1048576 < lb
          · go_wp2
            go_ret
            exact said5_no _ _ _ _ _ _
          by_cases f2 : 1048576 < z + (lb : Int)
          · go_wp2
            go_ret
            exact said5_no _ _ _ _ _ _
          go_wp2
          go_ret
          exact said5_yes _ _ _ _ _ _ ⟨HL.out, HL'.out, by omega⟩

/-- stepsInputBytes answers some number. -/
def Said6 (w : World) (e : Ending) (w' : World) : Prop := ∃ t : Int, e = .returned (.int .i64 t) ∧ w' = w

theorem said6_mk (w : World) (t : Int) : Said6 w (.returned (.int .i64 t)) w := ⟨t, rfl, rfl⟩

set_option maxHeartbeats 1000000 in
theorem input6 (ah ap aq ab : Option Addr) (lh ch lp cp ls cs lb cb : Nat) (A A' : Nat → Option Addr) (L C L' C' : Nat → Nat) (Y Y' : Nat → List Int) (w : World)
    (hp : Tab w ap lp A L C Y) (hs : Tab w aq ls A' L' C' Y') (m1 : lh ≤ 65536) (m2 : lp ≤ 65536) (m3 : ls ≤ 65536) (m4 : lb ≤ 1048576) (hL : ∀ i, i < lp → L i ≤ 1048576) (hL' : ∀ i, i < ls → L' i ≤ 1048576) :
    Calls Try.prog 6 #[.slice ah lh ch, .slice ap lp cp, .slice aq ls cs, .slice ab lb cb] w fun e w' => Said6 w e w' := by
  have HP : Hid (Tab w ap lp A L C Y) := hp
  have HS : Hid (Tab w aq ls A' L' C' Y') := hs
  have HL : Hid (∀ i, i < lp → L i ≤ 1048576) := hL
  have HL' : Hid (∀ i, i < ls → L' i ≤ 1048576) := hL'
  clear hp hs hL hL'
  go_enter Try.func6, Try.ntmps6
  go_wp2
  go_loop [9, 10] (fun t i => ∃ (k : Nat) (z : Int), k ≤ lp ∧ i = .int .i64 k ∧ t = .int .i64 z ∧ 0 ≤ z ∧ z ≤ 8388608) (fun _ i => lp - (intOf i).toNat)
  case atStart => exact ⟨0, _, by omega, rfl, rfl, by omega, by omega⟩
  case round =>
    obtain ⟨k, z, hk, rfl, rfl, z0, z1⟩ := hrel
    by_cases hlt : k < lp
    · obtain ⟨b, off, e, hc⟩ := HP.out.at (Below.refl _ _) k hlt
      subst e
      have hki : (k : Int) < (lp : Int) := by omega
      have d1 : L k ≤ 1048576 := HL.out k hlt
      by_cases d2 : 1048576 < z + (L k : Int)
      · go_wp2
        go_ret
        exact said6_mk _ _
      · go_wp2
        go_round
        case rel => exact ⟨k + 1, z + (L k : Int), by omega, by go_num, rfl, by omega, by omega⟩
        case measure => simp [intOf]; omega
    · obtain rfl : lp = k := by omega
      go_wp2
      go_loop [9, 11] (fun t i => ∃ (k : Nat) (z : Int), k ≤ ls ∧ i = .int .i64 k ∧ t = .int .i64 z ∧ 0 ≤ z ∧ z ≤ 8388608) (fun _ i => ls - (intOf i).toNat)
      case atStart => exact ⟨0, _, by omega, rfl, rfl, by omega, by omega⟩
      case round =>
        obtain ⟨k, z, hk, rfl, rfl, z0, z1⟩ := hrel
        by_cases hlt : k < ls
        · obtain ⟨b, off, e, hc⟩ := HS.out.at (Below.refl _ _) k hlt
          subst e
          have hki : (k : Int) < (ls : Int) := by omega
          have d1 : L' k ≤ 1048576 := HL'.out k hlt
          by_cases d2 : 1048576 < z + (L' k : Int)
          · go_wp2
            go_ret
            exact said6_mk _ _
          · go_wp2
            go_round
            case rel => exact ⟨k + 1, z + (L' k : Int), by omega, by go_num, rfl, by omega, by omega⟩
            case measure => simp [intOf]; omega
        · obtain rfl : ls = k := by omega
          go_wp2
          go_ret
          exact said6_mk _ _
end Go.Proofs.Qxb6602484a

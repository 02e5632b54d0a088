/- onBounds (function 32). -/
import Derived.Test.Qxb6000709aVals
namespace Go.Proofs.Qxb6000709a
set_option linter.unusedVariables false
open Go.RowKit

/-- Is (x, y) among the first j bounds? -/
def inB (BN BU : Nat → Int) (x y : Int) : Nat → Bool
  | 0 => false
  | j + 1 => inB BN BU x y j || (BN j == x && BU j == y)

/-- Are the first k tiers on the bounds? -/
def onTo (H : Nat → Bool) (N U BN BU : Nat → Int) (m : Nat) : Nat → Bool
  | 0 => true
  | k + 1 => onTo H N U BN BU m k && (!H k || inB BN BU (N k) (U k) m)

theorem onTo_stays (H : Nat → Bool) (N U BN BU : Nat → Int) (m k n : Nat) (hk : k ≤ n) (h : onTo H N U BN BU m k = false) : onTo H N U BN BU m n = false := by
  induction n with
  | zero => rwa [show k = 0 by omega] at h
  | succ n ih =>
    by_cases e : k = n + 1
    · subst e; exact h
    · simp only [onTo]; rw [ih (by omega)]; rfl

/-- Tier i lies in the row vs: no bound, or a pointer to a block that holds it. -/
def TierAt (w : World) (vs : List Value) (i : Nat) (h : Bool) (x y : Int) : Prop :=
  (∃ s, vs[i * 2 + 1]? = some (.string s)) ∧
  ((h = false ∧ vs[i * 2]? = some (.pointer none)) ∨
   (h = true ∧ ∃ b, vs[i * 2]? = some (.pointer (some ⟨b, 0, none⟩)) ∧ VRow 44 w b [.int .i64 x, .int .i64 y]))

/-- The bounds' row. -/
def BoundsAt (ws : List Value) (m : Nat) (BN BU : Nat → Int) : Prop :=
  ∀ j, j < m → ws[j * 2]? = some (.int .i64 (BN j)) ∧ ws[j * 2 + 1]? = some (.int .i64 (BU j))

set_option maxHeartbeats 1000000 in
theorem onBounds_any (gt gb len m : Nat) (H : Nat → Bool) (N U BN BU : Nat → Int) (vs ws : List Value) (w : World) (hl : len ≤ 4096) (hm : m ≤ 4096)
    (ht : VRow 47 w gt vs) (hb : VRow 44 w gb ws) (hT : ∀ i, i < len → TierAt w vs i (H i) (N i) (U i)) (hB : BoundsAt ws m BN BU) :
    Calls Try.prog 32 #[.agg #[.slice (some ⟨gt, 0, none⟩) len len, .int .i64 0, .int .i64 0, .slice none 0 0], .slice (some ⟨gb, 0, none⟩) m m] w
      fun e w' => e = .returned (.bool (onTo H N U BN BU m len)) ∧ Below w.heap.size w w' := by
  have HT : Hid (∀ i, i < len → TierAt w vs i (H i) (N i) (U i)) := hT
  have HB : Hid (BoundsAt ws m BN BU) := hB
  clear hT hB
  go_enter Try.func32, Try.ntmps32
  go_wp2
  go_loopw [13] (fun i wr => ∃ k : Nat, k ≤ len ∧ i = .int .i64 k ∧ Hid (onTo H N U BN BU m k = true) ∧ Below w.heap.size w wr) (fun i _ => len - (intOf i).toNat)
  case atStart => exact ⟨0, by omega, rfl, rfl, (Below.refl _ _).alloc (Nat.le_refl _) _⟩
  case round =>
    obtain ⟨k, hk, rfl, HK, hbk⟩ := hrel
    by_cases hlt : k < len
    · obtain ⟨⟨s, hs⟩, hcase⟩ := HT.out k hlt
      have c2 := ((ht.later hbk).cell (k * 2 + 1)).trans hs
      rcases hcase with ⟨hh, hp⟩ | ⟨hh, b, hp, hbr⟩
      · have c1 := ((ht.later hbk).cell (k * 2)).trans hp
        have HH : Hid (H k = false) := hh
        clear hs hp hh
        go_wp2
        go_roundw
        case rel => exact ⟨k + 1, by omega, by go_num, by show onTo H N U BN BU m (k + 1) = true; simp only [onTo]; rw [HK.out, HH.out]; rfl, hbk.alloc hbk.size _⟩
        case measure => simp [intOf]; omega
      · have c1 := ((ht.later hbk).cell (k * 2)).trans hp
        have HH : Hid (H k = true) := hh
        clear hs hp hh
        go_wp2_with fail
        have hT1 : VRow 47 (wr.alloc (.cells #[.pointer (some ⟨b, 0, none⟩), .string s] 47)) wr.heap.size [.pointer (some ⟨b, 0, none⟩), .string s] := heap_alloc_new _ _
        have hW1 : Below wr.heap.size wr (wr.alloc (.cells #[.pointer (some ⟨b, 0, none⟩), .string s] 47)) := (Below.refl _ _).alloc (Nat.le_refl _) _
        have hbr1 := (hbr.later hbk).later hW1
        have hgb1 := (hb.later hbk).later hW1
        have hw1 := hbk.trans (hW1.mono hbk.size)
        obtain ⟨g1, hg1⟩ : ∃ g1, g1 = wr.heap.size := ⟨_, rfl⟩
        rw [← hg1] at hT1
        have HG1 : Hid (g1 = wr.heap.size) := hg1
        go_loopw [7, 22] (fun f i wx => ∃ (j : Nat) (fb : Bool), j ≤ m ∧ i = .int .i64 j ∧ f = .bool fb ∧ Hid (fb = inB BN BU (N k) (U k) j) ∧ VRow 47 wx wr.heap.size [.pointer (some ⟨b, 0, none⟩), .string s] ∧ VRow 44 wx b [.int .i64 (N k), .int .i64 (U k)] ∧ VRow 44 wx gb ws ∧ Below w.heap.size w wx) (fun _ i _ => m - (intOf i).toNat)
        case atStart => exact ⟨0, false, by omega, rfl, rfl, rfl, hg1 ▸ hT1, hbr1, hgb1, hw1⟩
        case round =>
          clear hg1 hT1 hbr1 hgb1 hw1 hW1 c1 c2
          obtain ⟨j, fb, hj, rfl, rfl, HF, hx1, hx2, hx3, hx4⟩ := hrel
          by_cases hjm : j < m
          · obtain ⟨b1, b2⟩ := HB.out j hjm
            have d1 := (hx3.cell (j * 2)).trans b1
            have d2 := (hx3.cell (j * 2 + 1)).trans b2
            have d3 : _ = some (Value.pointer (some ⟨b, 0, none⟩)) := hx1.cell 0
            have d4 : _ = some (Value.int .i64 (N k)) := hx2.cell 0
            have d5 : _ = some (Value.int .i64 (U k)) := hx2.cell 1
            have l1 := hx1.lt
            have l2 := hx2.lt
            have hji : (j : Int) < (m : Int) := by omega
            clear b1 b2
            have hbn := fun (X : Obj) (n : Nat) => below_drewN ((Below.refl wr.heap.size wr).alloc (Nat.le_refl _) X) n
            have HBN : Hid (∀ (X : Obj) (n : Nat), Below wr.heap.size wr ((wr.alloc X).drewN n)) := hbn
            clear hbn
            cases fb with
            | true =>
              go_wp2_with fail
              go_quiet (fail)
              go_wp2
              go_roundw
              case rel => exact ⟨j + 1, true, by omega, by go_num, rfl, by show true = inB BN BU (N k) (U k) (j + 1); simp only [inB]; rw [← HF.out]; rfl, hx1.later (HBN.out _ _), hx2.later (HBN.out _ _), hx3.later (HBN.out _ _), hx4.trans ((HBN.out _ _).mono hx4.size)⟩
              case measure => simp [intOf]; omega
            | false =>
              by_cases e1 : (BN j == N k) = true
              · by_cases e2 : (BU j == U k) = true
                · go_wp2_with fail
                  go_quiet (fail)
                  go_wp2
                  go_roundw
                  case rel => exact ⟨j + 1, true, by omega, by go_num, rfl, by show true = inB BN BU (N k) (U k) (j + 1); simp only [inB]; rw [e1, e2]; simp, hx1.later (HBN.out _ _), hx2.later (HBN.out _ _), hx3.later (HBN.out _ _), hx4.trans ((HBN.out _ _).mono hx4.size)⟩
                  case measure => simp [intOf]; omega
                · have e3 : (BU j == U k) = false := by simpa using e2
                  clear e2
                  go_wp2_with fail
                  go_quiet (fail)
                  go_wp2
                  go_roundw
                  case rel => exact ⟨j + 1, false, by omega, by go_num, rfl, by show false = inB BN BU (N k) (U k) (j + 1); simp only [inB]; rw [← HF.out, e3]; simp, hx1.later (HBN.out _ _), hx2.later (HBN.out _ _), hx3.later (HBN.out _ _), hx4.trans ((HBN.out _ _).mono hx4.size)⟩
                  case measure => simp [intOf]; omega
              · have e3 : (BN j == N k) = false := by simpa using e1
                clear e1
                go_wp2_with fail
                go_quiet (fail)
                go_wp2
                go_roundw
                case rel => exact ⟨j + 1, false, by omega, by go_num, rfl, by show false = inB BN BU (N k) (U k) (j + 1); simp only [inB]; rw [← HF.out, e3]; simp, hx1.later (HBN.out _ _), hx2.later (HBN.out _ _), hx3.later (HBN.out _ _), hx4.trans ((HBN.out _ _).mono hx4.size)⟩
                case measure => simp [intOf]; omega
          · obtain rfl : m = j := by omega
            cases fb with
            | true =>
              go_wp2
              go_roundw
              case rel => exact ⟨k + 1, by omega, by go_num, by show onTo H N U BN BU m (k + 1) = true; simp only [onTo]; rw [HK.out, ← HF.out]; simp, hx4⟩
              case measure => simp [intOf]; omega
            | false =>
              have HO : Hid (onTo H N U BN BU m len = false) := onTo_stays H N U BN BU m (k + 1) len (by omega) (by simp only [onTo]; rw [HK.out, HH.out, ← HF.out]; rfl)
              go_wp2
              go_ret
              rw [HO.out]
              exact ⟨rfl, hx4⟩
    · obtain rfl : len = k := by omega
      go_wp2
      go_ret
      rw [HK.out]
      exact ⟨rfl, hbk⟩
end Go.Proofs.Qxb6000709a

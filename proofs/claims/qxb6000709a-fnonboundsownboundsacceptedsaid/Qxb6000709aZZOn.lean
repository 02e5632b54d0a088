/- ZZOnBounds (function 24). -/
import Derived.Test.Qxb6000709aOnB
namespace Go.Proofs.Qxb6000709a
set_option linter.unusedVariables false
open Go.RowKit

theorem TierAt.kept {w w2 : World} {vs : List Value} {i : Nat} {h : Bool} {x y : Int} (t : TierAt w vs i h x y) (hk : ∀ b xs, VRow 44 w b xs → VRow 44 w2 b xs) : TierAt w2 vs i h x y := by
  obtain ⟨h1, ⟨h2, h3⟩ | ⟨h2, b, h3, h4⟩⟩ := t
  · exact ⟨h1, .inl ⟨h2, h3⟩⟩
  · exact ⟨h1, .inr ⟨h2, b, h3, hk b _ h4⟩⟩

theorem TierAt.put {w : World} {vs : List Value} {i k : Nat} {h : Bool} {x y : Int} (t : TierAt w vs i h x y) (hne : k ≠ i) (v : Value) : TierAt w (vs.set (k * 2) v) i h x y := by
  obtain ⟨⟨s, h1⟩, ⟨h2, h3⟩ | ⟨h2, b, h3, h4⟩⟩ := t
  · exact ⟨⟨s, by rw [List.getElem?_set_ne (by omega)]; exact h1⟩, .inl ⟨h2, by rw [List.getElem?_set_ne (by omega)]; exact h3⟩⟩
  · exact ⟨⟨s, by rw [List.getElem?_set_ne (by omega)]; exact h1⟩, .inr ⟨h2, b, by rw [List.getElem?_set_ne (by omega)]; exact h3, h4⟩⟩

/-- The first k tiers are laid. -/
def Tiers (w : World) (vs : List Value) (k len : Nat) (H : Nat → Bool) (N U : Nat → Int) : Prop :=
  vs.length = len * 2 ∧ ∀ i, i < len → TierAt w vs i (decide (i < k) && H i) (N i) (U i)

theorem Tiers.skip {w : World} {vs : List Value} {k len : Nat} {H : Nat → Bool} {N U : Nat → Int} (h : Tiers w vs k len H N U) (hk : H k = false) : Tiers w vs (k + 1) len H N U := by
  refine ⟨h.1, fun i hi => ?_⟩
  have := h.2 i hi
  by_cases e : i = k
  · subst e; simpa [hk] using this
  · rw [show decide (i < k + 1) = decide (i < k) by rw [decide_eq_decide]; omega]; exact this

theorem Tiers.put {w w2 : World} {vs : List Value} {k len b : Nat} {H : Nat → Bool} {N U : Nat → Int} (h : Tiers w vs k len H N U) (hkl : k < len) (hk : H k = true)
    (hkeep : ∀ b xs, VRow 44 w b xs → VRow 44 w2 b xs) (hb : VRow 44 w2 b [.int .i64 (N k), .int .i64 (U k)]) : Tiers w2 (vs.set (k * 2) (.pointer (some ⟨b, 0, none⟩))) (k + 1) len H N U := by
  refine ⟨by simpa using h.1, fun i hi => ?_⟩
  have := h.2 i hi
  by_cases e : i = k
  · subst e
    obtain ⟨⟨s, h1⟩, _⟩ := this
    exact ⟨⟨s, by rw [List.getElem?_set_ne (by omega)]; exact h1⟩, .inr ⟨by simp [hk], b, by rw [List.getElem?_set_self (by have := h.1; omega)], hb⟩⟩
  · rw [show decide (i < k + 1) = decide (i < k) by rw [decide_eq_decide]; omega]
    exact (this.kept hkeep).put (by omega) _

theorem Tiers.full {w : World} {vs : List Value} {len : Nat} {H : Nat → Bool} {N U : Nat → Int} (h : Tiers w vs len len H N U) : ∀ i, i < len → TierAt w vs i (H i) (N i) (U i) := fun i hi => by
  have := h.2 i hi
  simpa [hi] using this

theorem made2_at (v0 v1 : Value) (n i : Nat) (hi : i < n) : (madeCells #[v0, v1] (n * 2)).toList[i * 2]? = some v0 ∧ (madeCells #[v0, v1] (n * 2)).toList[i * 2 + 1]? = some v1 := by
  constructor
  · simp [madeCells, show i * 2 < n * 2 by omega]
  · simp [madeCells, show i * 2 + 1 < n * 2 by omega, show (i * 2 + 1) % 2 = 1 by omega]

theorem tiers_new (w : World) (len : Nat) (H : Nat → Bool) (N U : Nat → Int) : Tiers w (madeCells (Value.agg #[.pointer none, .string ByteArray.empty]).cells (len * 2)).toList 0 len H N U := by
  refine ⟨by rw [Array.length_toList, size_madeCells], fun i hi => ?_⟩
  obtain ⟨h1, h2⟩ := made2_at (.pointer none) (.string ByteArray.empty) len i hi
  exact ⟨⟨_, h2⟩, .inl ⟨by simp, h1⟩⟩

theorem type_apart {w : World} {g b : Nat} {vs xs : List Value} (h : VRow 47 w g vs) (hb : VRow 44 w b xs) : b ≠ g := by
  rintro rfl
  unfold VRow at h hb
  rw [h] at hb
  simp at hb

theorem put_tier {wr : World} {g k len : Nat} {vs : List Value} {H : Nat → Bool} {N U : Nat → Int} (hgk : VRow 47 wr g vs) (hek : Tiers wr vs k len H N U) (hlt : k < len) (hH : H k = true) :
    VRow 47 ((wr.setCell ⟨g, k * 2, none⟩ (.pointer (some ⟨wr.heap.size, 0, none⟩))).alloc (.cells #[.int .i64 (N k), .int .i64 (U k)] 44)).drew g (vs.set (k * 2) (.pointer (some ⟨wr.heap.size, 0, none⟩))) ∧
    Tiers ((wr.setCell ⟨g, k * 2, none⟩ (.pointer (some ⟨wr.heap.size, 0, none⟩))).alloc (.cells #[.int .i64 (N k), .int .i64 (U k)] 44)).drew (vs.set (k * 2) (.pointer (some ⟨wr.heap.size, 0, none⟩))) (k + 1) len H N U := by
  have hA : Below (wr.setCell ⟨g, k * 2, none⟩ (.pointer (some ⟨wr.heap.size, 0, none⟩))).heap.size (wr.setCell ⟨g, k * 2, none⟩ (.pointer (some ⟨wr.heap.size, 0, none⟩))) ((wr.setCell ⟨g, k * 2, none⟩ (.pointer (some ⟨wr.heap.size, 0, none⟩))).alloc (.cells #[.int .i64 (N k), .int .i64 (U k)] 44)) := (Below.refl _ _).alloc (Nat.le_refl _) _
  refine ⟨((hgk.set (k * 2) _).later hA).drew, hek.put hlt hH (fun b xs h => ((h.other (type_apart hgk h) _).later hA).drew) ?_⟩
  have := heap_alloc_new (wr.setCell ⟨g, k * 2, none⟩ (.pointer (some ⟨wr.heap.size, 0, none⟩))) (.cells #[.int .i64 (N k), .int .i64 (U k)] 44)
  rw [show (wr.setCell ⟨g, k * 2, none⟩ (.pointer (some ⟨wr.heap.size, 0, none⟩))).heap.size = wr.heap.size by simp [World.setCell]] at this
  exact this

theorem BoundsAt.put {ws : List Value} {k m : Nat} {BN BU : Nat → Int} (h : BoundsAt ws k BN BU) (hl : ws.length = m * 2) (hk : k < m) :
    BoundsAt ((ws.set (k * 2) (.int .i64 (BN k))).set (k * 2 + 1) (.int .i64 (BU k))) (k + 1) BN BU := by
  intro j hj
  rcases Nat.lt_succ_iff_lt_or_eq.1 hj with h' | rfl
  · obtain ⟨h1, h2⟩ := h j h'
    exact ⟨by rw [List.getElem?_set_ne (by omega), List.getElem?_set_ne (by omega)]; exact h1, by rw [List.getElem?_set_ne (by omega), List.getElem?_set_ne (by omega)]; exact h2⟩
  · exact ⟨by rw [List.getElem?_set_ne (by omega), List.getElem?_set_self (by omega)], by rw [List.getElem?_set_self (by simp; omega)]⟩

set_option maxHeartbeats 2000000 in
theorem zzOn_any (ah an au ax ay : Option Addr) (len ch cn cu m cx cy : Nat) (H : Nat → Bool) (N U BN BU : Nat → Int) (w : World) (hl : len ≤ 4096) (hm : m ≤ 4096)
    (hH : RowV w ah len (fun i => .bool (H i))) (hN : RowV w an len (fun i => .int .i64 (N i))) (hU : RowV w au len (fun i => .int .i64 (U i)))
    (hX : RowV w ax m (fun i => .int .i64 (BN i))) (hY : RowV w ay m (fun i => .int .i64 (BU i))) :
    Calls Try.prog 24 #[.slice ah len ch, .slice an len cn, .slice au len cu, .slice ax m cx, .slice ay m cy] w
      fun e w' => e = .returned (.bool (onTo H N U BN BU m len)) ∧ Below w.heap.size w w' := by
  have HH : Hid (RowV w ah len (fun i => .bool (H i))) := hH
  have HN : Hid (RowV w an len (fun i => .int .i64 (N i))) := hN
  have HU : Hid (RowV w au len (fun i => .int .i64 (U i))) := hU
  have HX : Hid (RowV w ax m (fun i => .int .i64 (BN i))) := hX
  have HY : Hid (RowV w ay m (fun i => .int .i64 (BU i))) := hY
  clear hH hN hU hX hY
  obtain ⟨i0, hi, hz0, hz1, hz2⟩ := info_parts Try.info47
  go_enter Try.func24, Try.ntmps24
  go_wp2_with (at_make; refine wpList_make_full _ rfl _ _ 41 rfl w.heap.size 47 i0 (.agg #[.pointer none, .string ByteArray.empty]) 2 Try.underlying41 hi hz0 hz1 _ _ _ _ len rfl rfl rfl rfl ?b2 ?b3 (Nat.le_refl _) ?_)
  case b2 => rw [hz2]; omega
  case b3 => unfold maxLen; omega
  intro w0 hown hg
  have hG := own_vrow hown
  have hb0 : Below w.heap.size w w0 := (Below.refl _ _).grown hg (Nat.le_refl _) (fun k h => by cases h)
  clear hown hg hi hz0 hz1 hz2 i0
  go_wp2_with fail
  go_loopw [12] (fun i wr => ∃ (k : Nat) (vs : List Value), k ≤ len ∧ i = .int .i64 k ∧ VRow 47 wr w.heap.size vs ∧ Tiers wr vs k len H N U ∧ Below w.heap.size w wr) (fun i _ => len - (intOf i).toNat)
  case atStart => exact ⟨0, _, by omega, rfl, hG, tiers_new _ _ _ _ _, hb0⟩
  case round =>
    obtain ⟨k, vs, hk, rfl, hgk, hek, hbk⟩ := hrel
    clear hG hb0
    by_cases hlt : k < len
    · obtain ⟨bh, oh, eh, lh, ch1⟩ := HH.out.at hbk k hlt
      subst eh
      have hki : (k : Int) < (len : Int) := by omega
      cases hHk : H k with
      | false =>
        have HHk : Hid (H k = false) := hHk
        rw [hHk] at ch1
        clear hHk
        go_wp2
        go_roundw
        case rel => exact ⟨k + 1, vs, by omega, by go_num, hgk, hek.skip HHk.out, hbk⟩
        case measure => simp [intOf]; omega
      | true =>
        have HHk : Hid (H k = true) := hHk
        rw [hHk] at ch1
        clear hHk
        obtain ⟨bn, on, en, ln, cn1⟩ := HN.out.at hbk k hlt
        subst en
        obtain ⟨bu, ou, eu, lu, cu1⟩ := HU.out.at hbk k hlt
        subst eu
        have lw := hbk.size
        have hbn' : bn < wr.heap.size := by omega
        have hbu' : bu < wr.heap.size := by omega
        have hgl := hgk.lt
        have z1 := hgk.frozen (k * 2)
        obtain ⟨v1, hv1⟩ := in_len vs (len * 2) hek.1 (k * 2) (by omega)
        have t1 := (hgk.cell (k * 2)).trans hv1
        clear hv1
        go_wp2_with fail
        go_region
        go_wp2
        go_roundw
        case rel => exact ⟨k + 1, _, by omega, by go_num, (put_tier hgk hek hlt HHk.out).1, (put_tier hgk hek hlt HHk.out).2, ((hbk.setCell (Nat.le_refl _) _).alloc (by simp [World.setCell]; omega) _).drew⟩
        case measure => simp [intOf]; omega
    · obtain rfl : len = k := by omega
      obtain ⟨i0, hi, hz0, hz1, hz2⟩ := info_parts Try.info44
      go_wp2_with (at_make; refine wpList_make_full _ rfl _ _ 48 rfl wr.heap.size 44 i0 (.agg #[.int .i64 0, .int .i64 0]) 2 Try.underlying48 hi hz0 hz1 _ _ _ _ m rfl rfl rfl rfl ?b2 ?b3 (Nat.le_refl _) ?_)
      case b2 => rw [hz2]; omega
      case b3 => unfold maxLen; omega
      intro w3 hown hg
      have hG3 := own_vrow hown
      have hL3 := size_madeCells (Value.agg #[.int .i64 0, .int .i64 0]).cells (m * 2)
      rw [← Array.length_toList] at hL3
      have hb3 : Below wr.heap.size wr w3 := (Below.refl _ _).grown hg (Nat.le_refl _) (fun k h => by cases h)
      clear hown hg hi hz0 hz1 hz2 i0
      obtain ⟨wo, hwo⟩ : ∃ wo, wo = wr := ⟨_, rfl⟩
      have HWO : Hid (wo = wr) := hwo
      go_wp2_with fail
      go_loopw [15] (fun i wx => ∃ (k : Nat) (ws : List Value), k ≤ m ∧ i = .int .i64 k ∧ VRow 44 wx wr.heap.size ws ∧ ws.length = m * 2 ∧ BoundsAt ws k BN BU ∧ Below wr.heap.size wr wx) (fun i _ => m - (intOf i).toNat)
      case atStart => exact ⟨0, _, by omega, rfl, hG3, hL3, fun j hj => by omega, hb3⟩
      case round =>
        obtain ⟨k2, ws, hk2, rfl, hg2, hl2, hB2, hb2⟩ := hrel
        clear hG3 hL3 hb3 hwo
        have HL2 : Hid (ws.length = m * 2) := hl2
        have HB2 : Hid (BoundsAt ws k2 BN BU) := hB2
        clear hl2 hB2
        have hbw := hbk.trans (hb2.mono hbk.size)
        by_cases hlt2 : k2 < m
        · obtain ⟨bx, ox, ex, lx, cx1⟩ := HX.out.at hbw k2 hlt2
          subst ex
          obtain ⟨by_, oy, ey, ly, cy1⟩ := HY.out.at hbw k2 hlt2
          subst ey
          have hki : (k2 : Int) < (m : Int) := by omega
          have z1 := hg2.frozen (k2 * 2)
          have z2 := hg2.frozen (k2 * 2 + 1)
          obtain ⟨v1, hv1⟩ := in_len ws (m * 2) HL2.out (k2 * 2) (by omega)
          obtain ⟨v2, hv2⟩ := in_len ws (m * 2) HL2.out (k2 * 2 + 1) (by omega)
          have t1 := (hg2.cell (k2 * 2)).trans hv1
          have t2 := (hg2.cell (k2 * 2 + 1)).trans hv2
          clear hv1 hv2
          go_wp2_with fail
          go_region
          go_wp2
          go_roundw
          case rel => exact ⟨k2 + 1, _, by omega, by go_num, ((hg2.set (k2 * 2) _).set (k2 * 2 + 1) _).drew, by simpa using HL2.out, HB2.out.put HL2.out hlt2, ((hb2.setCell (Nat.le_refl _) _).setCell (Nat.le_refl _) _).drew⟩
          case measure => simp [intOf]; omega
        · obtain rfl : m = k2 := by omega
          go_wp2_with fail
          refine (onBounds_any w.heap.size _ len m H N U BN BU vs ws _ hl hm (hgk.later hb2) hg2 (fun i hi => (hek.full i hi).kept (fun b xs h => h.later hb2)) HB2.out).mono ?_
          rintro e w9 ⟨rfl, hb9⟩
          go_wp2
          go_ret
          exact ⟨rfl, hbw.trans (hb9.mono hbw.size)⟩
end Go.Proofs.Qxb6000709a

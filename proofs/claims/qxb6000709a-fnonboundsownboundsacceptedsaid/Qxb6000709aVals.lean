/- Rows of bools and of ints: what is known of one that came in; the clones (functions 22, 23); zzBytes (function 21). -/
import Derived.Test.Qxb6000709aProg
import Derived.WalkKit
import Derived.WalkSpells
import Derived.WalkSmall
import Derived.WalkLawsBesides
import Derived.Deep.QuietTactic
import Derived.BigQuiet
import Derived.BigRegion
namespace Go.Proofs.Qxb6000709a
set_option linter.unusedVariables false
open Go.RowKit

/-- Block g is a row of the values vs, known whole, not frozen. -/
def VRow (t : TypeId) (w : World) (g : Nat) (vs : List Value) : Prop := w.heap[g]? = some (.cells vs.toArray t (0, 0))

theorem VRow.lt {t : TypeId} {w : World} {g : Nat} {vs : List Value} (h : VRow t w g vs) : g < w.heap.size := (Array.getElem?_eq_some_iff.1 h).1
theorem VRow.cell {t : TypeId} {w : World} {g : Nat} {vs : List Value} (h : VRow t w g vs) (i : Nat) : w.cell? ⟨g, i, none⟩ = vs[i]? := by
  rw [cell_of_row w g i _ t (0, 0) h]; simp
theorem VRow.frozen {t : TypeId} {w : World} {g : Nat} {vs : List Value} (h : VRow t w g vs) (i : Nat) : w.frozen? ⟨g, i, none⟩ = false := frozen_of_row w g i _ t h
theorem VRow.set {t : TypeId} {w : World} {g : Nat} {vs : List Value} (h : VRow t w g vs) (i : Nat) (x : Value) : VRow t (w.setCell ⟨g, i, none⟩ x) g (vs.set i x) := by
  unfold VRow
  rw [heap_setCell_same w g i _ t _ h]
  simp
theorem VRow.other {t : TypeId} {w : World} {g : Nat} {vs : List Value} (h : VRow t w g vs) {a : Addr} (hg : g ≠ a.block) (v : Value) : VRow t (w.setCell a v) g vs := (heap_setCell_other w a g v hg).trans h
theorem VRow.later {t : TypeId} {w w' : World} {g : Nat} {vs : List Value} (h : VRow t w g vs) (hb : Below w.heap.size w w') : VRow t w' g vs := (hb.block g h.lt).trans h
theorem VRow.drew {t : TypeId} {w : World} {g : Nat} {vs : List Value} (h : VRow t w g vs) : VRow t w.drew g vs := h

theorem own_vrow {t : TypeId} {size : Nat} {w : World} {base g n : Nat} {xs : List Value} (h : w.ownsRow base t size (.slice (some ⟨g, 0, none⟩) n n) n xs) : VRow t w g xs := by
  rcases h.2 with ⟨h', _⟩ | ⟨g', cap', cur, h', _, hg, _, _, hcs, htake⟩
  · simp at h'
  · simp only [Value.slice.injEq, Option.some.injEq, Addr.mk.injEq, and_true, true_and] at h'
    obtain ⟨rfl, rfl⟩ := h'
    have : cur.toList = xs := by rw [← htake, List.take_of_length_le (by simp; omega)]
    unfold VRow
    rw [hg, ← this]

theorem in_len {α : Type} (vs : List α) (n : Nat) (h : vs.length = n) (i : Nat) (hi : i < n) : ∃ v, vs[i]? = some v := ⟨vs[i], by rw [List.getElem?_eq_getElem]⟩

/-- A row whose element i is V i, wherever it lies. -/
def RowV (w : World) (a : Option Addr) (len : Nat) (V : Nat → Value) : Prop :=
  0 < len → ∃ b off, a = some ⟨b, off, none⟩ ∧ ∀ i, i < len → w.cell? ⟨b, off + i, none⟩ = some (V i)

theorem RowV.kept {w w' : World} {a : Option Addr} {len : Nat} {V : Nat → Value} (h : RowV w a len V) (hb : Below w.heap.size w w') : RowV w' a len V :=
  fun hp => let ⟨b, off, e, hc⟩ := h hp; ⟨b, off, e, fun i hi => cell_later hb (hc i hi)⟩

theorem RowV.at {w w' : World} {a : Option Addr} {len : Nat} {V : Nat → Value} (h : RowV w a len V) (hb : Below w.heap.size w w') (k : Nat) (hk : k < len) :
    ∃ b off, a = some ⟨b, off, none⟩ ∧ b < w.heap.size ∧ w'.cell? ⟨b, off + k, none⟩ = some (V k) := by
  obtain ⟨b, off, e, hc⟩ := h (by omega)
  exact ⟨b, off, e, World.block_lt_of_cell? _ _ (hc k hk), cell_later hb (hc k hk)⟩

/-- The first k cells of a row of n are as V says. -/
def Part (V : Nat → Value) (k n : Nat) (vs : List Value) : Prop := vs.length = n ∧ ∀ i, i < k → vs[i]? = some (V i)

theorem Part.set {V : Nat → Value} {k n : Nat} {vs : List Value} (h : Part V k n vs) (hk : k < n) : Part V (k + 1) n (vs.set k (V k)) := by
  refine ⟨by simpa using h.1, fun i hi => ?_⟩
  rcases Nat.lt_succ_iff_lt_or_eq.1 hi with h' | rfl
  · rw [List.getElem?_set_ne (by omega)]; exact h.2 i h'
  · simp [h.1, hk]

theorem Part.row {t : TypeId} {V : Nat → Value} {n g : Nat} {vs : List Value} {w : World} (h : Part V n n vs) (hr : VRow t w g vs) : RowV w (some ⟨g, 0, none⟩) n V :=
  fun _ => ⟨g, 0, rfl, fun i hi => by rw [Nat.zero_add, hr.cell i]; exact h.2 i hi⟩

theorem Try.info4 : (Try.prog.info? 4).map (fun i => (i.zero, i.size, i.bytes)) = some (some (.bool false), 1, 1) := by kernel_rfl
theorem Try.info3 : (Try.prog.info? 3).map (fun i => (i.zero, i.size, i.bytes)) = some (some (.int .i64 0), 1, 8) := by kernel_rfl
theorem Try.info47 : (Try.prog.info? 47).map (fun i => (i.zero, i.size, i.bytes)) = some (some (.agg #[.pointer none, .string ByteArray.empty]), 2, 24) := by kernel_rfl
theorem Try.info44 : (Try.prog.info? 44).map (fun i => (i.zero, i.size, i.bytes)) = some (some (.agg #[.int .i64 0, .int .i64 0]), 2, 16) := by kernel_rfl

/-- What a clone hands back. -/
def Gave (w : World) (n : Nat) (V : Nat → Value) (e : Ending) (w' : World) : Prop := ∃ a, e = .returned (.slice a n n) ∧ RowV w' a n V ∧ Below w.heap.size w w'

theorem gave_nil (w : World) (V : Nat → Value) : Gave w 0 V (.returned (.slice none 0 0)) w := ⟨none, rfl, fun h => by omega, Below.refl _ _⟩
theorem gave_row {t : TypeId} {w w' : World} {n : Nat} {V : Nat → Value} {vs : List Value} (hb : Below w.heap.size w w') (hr : VRow t w' w.heap.size vs) (hp : Part V n n vs) :
    Gave w n V (.returned (.slice (some ⟨w.heap.size, 0, none⟩) n n)) w' := ⟨_, rfl, hp.row hr, hb⟩

set_option maxHeartbeats 400000 in
theorem cloneB_nil (V : Nat → Value) (w : World) : Calls Try.prog 22 #[.slice none 0 0] w fun e w' => Gave w 0 V e w' := by
  have hq := fun (w : World) (a : Option Addr) (n c n' c' : Nat) => Lib.run_eql_slice_nil (P := Try.prog) w _ _ a n c n' c' Try.underlying31
  go_enter Try.func22, Try.ntmps22
  go_wp2
  go_ret
  exact gave_nil _ _

set_option maxHeartbeats 400000 in
theorem cloneI_nil (V : Nat → Value) (w : World) : Calls Try.prog 23 #[.slice none 0 0] w fun e w' => Gave w 0 V e w' := by
  have hq := fun (w : World) (a : Option Addr) (n c n' c' : Nat) => Lib.run_eql_slice_nil (P := Try.prog) w _ _ a n c n' c' Try.underlying32
  go_enter Try.func23, Try.ntmps23
  go_wp2
  go_ret
  exact gave_nil _ _

set_option maxHeartbeats 400000 in
theorem cloneB_row (x : Addr) (len cap : Nat) (H : Nat → Bool) (w : World) (hm : len ≤ 4096) (h : RowV w (some x) len (fun i => .bool (H i))) :
    Calls Try.prog 22 #[.slice (some x) len cap] w fun e w' => Gave w len (fun i => .bool (H i)) e w' := by
  have hq := fun (w : World) (a : Option Addr) (n c n' c' : Nat) => Lib.run_eql_slice_nil (P := Try.prog) w _ _ a n c n' c' Try.underlying31
  obtain ⟨i0, hi, hz0, hz1, hz2⟩ := info_parts Try.info4
  have HR : Hid (RowV w (some x) len (fun i => .bool (H i))) := h
  clear h
  go_enter Try.func22, Try.ntmps22
  go_wp2_with (at_make; refine wpList_make_full _ rfl _ _ 31 rfl w.heap.size 4 i0 (.bool false) 1 Try.underlying31 hi hz0 hz1 _ _ _ _ len rfl rfl rfl rfl ?b2 ?b3 (Nat.le_refl _) ?_)
  case b2 => rw [hz2]; omega
  case b3 => unfold maxLen; omega
  intro w0 hown hg
  have hG := own_vrow hown
  rw [toList_madeCells_one] at hG
  have hb0 : Below w.heap.size w w0 := (Below.refl _ _).grown hg (Nat.le_refl _) (fun k h => by cases h)
  clear hown hg hi hz0 hz1 hz2
  go_wp2_with fail
  go_loopw [4] (fun i wr => ∃ (k : Nat) (vs : List Value), k ≤ len ∧ i = .int .i64 k ∧ VRow 4 wr w.heap.size vs ∧ Part (fun i => .bool (H i)) k len vs ∧ Below w.heap.size w wr) (fun i _ => len - (intOf i).toNat)
  case atStart => exact ⟨0, _, by omega, rfl, hG, ⟨by simp, fun i hi => by omega⟩, hb0⟩
  case round =>
    obtain ⟨k, vs, hk, rfl, hgk, hek, hbk⟩ := hrel
    by_cases hlt : k < len
    · obtain ⟨b, off, e, _, h2⟩ := HR.out.at hbk k hlt
      obtain rfl : x = ⟨b, off, none⟩ := by simpa using e
      have h3 := hgk.frozen k
      obtain ⟨v, hv⟩ := in_len vs len hek.1 k hlt
      have h4 := (hgk.cell k).trans hv
      clear e hv
      go_wp2
      go_roundw
      case rel => exact ⟨k + 1, _, by omega, by go_num, hgk.set k _, hek.set hlt, hbk.setCell (Nat.le_refl _) _⟩
      case measure => simp [intOf]; omega
    · obtain rfl : len = k := by omega
      go_wp2
      go_ret
      exact gave_row hbk hgk hek

set_option maxHeartbeats 400000 in
theorem cloneI_row (x : Addr) (len cap : Nat) (N : Nat → Int) (w : World) (hm : len ≤ 4096) (h : RowV w (some x) len (fun i => .int .i64 (N i))) :
    Calls Try.prog 23 #[.slice (some x) len cap] w fun e w' => Gave w len (fun i => .int .i64 (N i)) e w' := by
  have hq := fun (w : World) (a : Option Addr) (n c n' c' : Nat) => Lib.run_eql_slice_nil (P := Try.prog) w _ _ a n c n' c' Try.underlying32
  obtain ⟨i0, hi, hz0, hz1, hz2⟩ := info_parts Try.info3
  have HR : Hid (RowV w (some x) len (fun i => .int .i64 (N i))) := h
  clear h
  go_enter Try.func23, Try.ntmps23
  go_wp2_with (at_make; refine wpList_make_full _ rfl _ _ 32 rfl w.heap.size 3 i0 (.int .i64 0) 1 Try.underlying32 hi hz0 hz1 _ _ _ _ len rfl rfl rfl rfl ?b2 ?b3 (Nat.le_refl _) ?_)
  case b2 => rw [hz2]; omega
  case b3 => unfold maxLen; omega
  intro w0 hown hg
  have hG := own_vrow hown
  rw [toList_madeCells_one] at hG
  have hb0 : Below w.heap.size w w0 := (Below.refl _ _).grown hg (Nat.le_refl _) (fun k h => by cases h)
  clear hown hg hi hz0 hz1 hz2
  go_wp2_with fail
  go_loopw [4] (fun i wr => ∃ (k : Nat) (vs : List Value), k ≤ len ∧ i = .int .i64 k ∧ VRow 3 wr w.heap.size vs ∧ Part (fun i => .int .i64 (N i)) k len vs ∧ Below w.heap.size w wr) (fun i _ => len - (intOf i).toNat)
  case atStart => exact ⟨0, _, by omega, rfl, hG, ⟨by simp, fun i hi => by omega⟩, hb0⟩
  case round =>
    obtain ⟨k, vs, hk, rfl, hgk, hek, hbk⟩ := hrel
    by_cases hlt : k < len
    · obtain ⟨b, off, e, _, h2⟩ := HR.out.at hbk k hlt
      obtain rfl : x = ⟨b, off, none⟩ := by simpa using e
      have h3 := hgk.frozen k
      obtain ⟨v, hv⟩ := in_len vs len hek.1 k hlt
      have h4 := (hgk.cell k).trans hv
      clear e hv
      go_wp2
      go_roundw
      case rel => exact ⟨k + 1, _, by omega, by go_num, hgk.set k _, hek.set hlt, hbk.setCell (Nat.le_refl _) _⟩
      case measure => simp [intOf]; omega
    · obtain rfl : len = k := by omega
      go_wp2
      go_ret
      exact gave_row hbk hgk hek

theorem cloneB_any (a : Option Addr) (len cap : Nat) (H : Nat → Bool) (w : World) (hm : len ≤ 4096) (h0 : a = none → len = 0 ∧ cap = 0) (h : RowV w a len (fun i => .bool (H i))) :
    Calls Try.prog 22 #[.slice a len cap] w fun e w' => Gave w len (fun i => .bool (H i)) e w' := by
  cases a with
  | none => obtain ⟨rfl, rfl⟩ := h0 rfl; exact cloneB_nil _ w
  | some x => exact cloneB_row x len cap H w hm h

theorem cloneI_any (a : Option Addr) (len cap : Nat) (N : Nat → Int) (w : World) (hm : len ≤ 4096) (h0 : a = none → len = 0 ∧ cap = 0) (h : RowV w a len (fun i => .int .i64 (N i))) :
    Calls Try.prog 23 #[.slice a len cap] w fun e w' => Gave w len (fun i => .int .i64 (N i)) e w' := by
  cases a with
  | none => obtain ⟨rfl, rfl⟩ := h0 rfl; exact cloneI_nil _ w
  | some x => exact cloneI_row x len cap N w hm h

set_option maxHeartbeats 400000 in
theorem bytes_yes (a2 a3 a4 : Option Addr) (len2 cap2 len3 cap3 len4 cap4 : Nat) (w : World) (hs : len2 + len3 + len4 ≤ 1048576) :
    Calls Try.prog 21 #[.slice a2 len2 cap2, .slice a3 len3 cap3, .slice a4 len4 cap4] w fun e w' => e = .returned (.bool true) ∧ w' = w := by
  go_enter Try.func21, Try.ntmps21
  go_wp2
  go_ret
  exact ⟨rfl, rfl⟩

set_option maxHeartbeats 400000 in
theorem bytes_no (a2 a3 a4 : Option Addr) (len2 cap2 len3 cap3 len4 cap4 : Nat) (w : World) (hs : 1048576 < len2 + len3 + len4) :
    Calls Try.prog 21 #[.slice a2 len2 cap2, .slice a3 len3 cap3, .slice a4 len4 cap4] w fun e w' => e = .returned (.bool false) ∧ w' = w := by
  by_cases c2 : 1048576 < len2
  · go_enter Try.func21, Try.ntmps21
    go_wp2
    go_ret
    exact ⟨rfl, rfl⟩
  by_cases c3 : 1048576 < len3
  · go_enter Try.func21, Try.ntmps21
    go_wp2
    go_ret
    exact ⟨rfl, rfl⟩
  by_cases c23 : 1048576 < len2 + len3
  · go_enter Try.func21, Try.ntmps21
    go_wp2
    go_ret
    exact ⟨rfl, rfl⟩
  by_cases c4 : 1048576 < len4
  · go_enter Try.func21, Try.ntmps21
    go_wp2
    go_ret
    exact ⟨rfl, rfl⟩
  · go_enter Try.func21, Try.ntmps21
    go_wp2
    go_ret
    exact ⟨rfl, rfl⟩
end Go.Proofs.Qxb6000709a

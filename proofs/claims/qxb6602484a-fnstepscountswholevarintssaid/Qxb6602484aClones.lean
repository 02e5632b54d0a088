/- The clones of a row of int32s (function 7) and of a table (function 8). -/
import Derived.Test.Qxb6602484aTabs
namespace Go.Proofs.Qxb6602484a
set_option linter.unusedVariables false
open Go.RowKit

/-- Block g is a row of the values vs, known whole, not frozen. -/
def VRow (t : TypeId) (w : World) (g : Nat) (vs : List Value) : Prop := w.heap[g]? = some (.cells vs.toArray t (0, 0))

theorem VRow.lt {t : TypeId} {w : World} {g : Nat} {vs : List Value} (h : VRow t w g vs) : g < w.heap.size := (Array.getElem?_eq_some_iff.1 h).1
theorem VRow.cell {t : TypeId} {w : World} {g : Nat} {vs : List Value} (h : VRow t w g vs) (i : Nat) : w.cell? ⟨g, i, none⟩ = vs[i]? := by
  rw [cell_of_row w g i _ t (0, 0) h]; simp
theorem VRow.frozen {t : TypeId} {w : World} {g : Nat} {vs : List Value} (h : VRow t w g vs) (i : Nat) : w.frozen? ⟨g, i, none⟩ = false := frozen_of_row w g i _ t h
theorem VRow.set {t : TypeId} {w : World} {g : Nat} {vs : List Value} (h : VRow t w g vs) (i : Nat) (x : Value) : VRow t (w.setCell ⟨g, i, none⟩ x) g (vs.set i x) := by
  unfold VRow
  rw [heap_setCell_same w g i _ t _ h]
  simp
theorem VRow.later {t : TypeId} {w w' : World} {g : Nat} {vs : List Value} (h : VRow t w g vs) (hb : Below w.heap.size w w') : VRow t w' g vs := (hb.block g h.lt).trans h

theorem own_vrow {t : TypeId} {size : Nat} {w : World} {base g n : Nat} {xs : List Value} (h : w.ownsRow base t size (.slice (some ⟨g, 0, none⟩) n n) n xs) : VRow t w g xs := by
  rcases h.2 with ⟨h', _⟩ | ⟨g', cap', cur, h', _, hg, _, _, hcs, htake⟩
  · simp at h'
  · simp only [Value.slice.injEq, Option.some.injEq, Addr.mk.injEq, and_true, true_and] at h'
    obtain ⟨rfl, rfl⟩ := h'
    have : cur.toList = xs := by rw [← htake, List.take_of_length_le (by simp; omega)]
    unfold VRow
    rw [hg, ← this]

/-- Every one of n values is of the make p. -/
def Each (p : Value → Prop) (n : Nat) (vs : List Value) : Prop := vs.length = n ∧ ∀ i, i < n → ∃ v, vs[i]? = some v ∧ p v

theorem Each.rep (p : Value → Prop) (n : Nat) (v : Value) (h : p v) : Each p n (List.replicate n v) :=
  ⟨by simp, fun i hi => ⟨v, by simp [hi], h⟩⟩

theorem Each.set {p : Value → Prop} {n : Nat} {vs : List Value} (h : Each p n vs) (k : Nat) (v : Value) (hv : p v) : Each p n (vs.set k v) := by
  refine ⟨by simpa using h.1, fun i hi => ?_⟩
  by_cases e : k = i
  · subst e; exact ⟨v, by simp [h.1, hi], hv⟩
  · rw [List.getElem?_set_ne e]; exact h.2 i hi

def IsI32 (v : Value) : Prop := ∃ n : Int, v = .int .i32 n
def IsSl (v : Value) : Prop := ∃ (a : Option Addr) (l c : Nat), v = .slice a l c

theorem Try.info21 : (Try.prog.info? 21).map (fun i => (i.zero, i.size, i.bytes)) = some (some (.int .i32 0), 1, 4) := by kernel_rfl
theorem Try.info24 : (Try.prog.info? 24).map (fun i => (i.zero, i.size, i.bytes)) = some (some (.slice none 0 0), 1, 24) := by kernel_rfl
theorem Try.info33 : (Try.prog.info? 33).map (fun i => (i.zero, i.size, i.bytes)) = some (some (.agg #[.int .i32 0, .slice none 0 0, .slice none 0 0]), 3, 56) := by kernel_rfl

/-- A row of int32s that came in. -/
def Row32 (w : World) (a : Option Addr) (len : Nat) (Z : Nat → Int) : Prop :=
  0 < len → ∃ b off, a = some ⟨b, off, none⟩ ∧ ∀ i, i < len → w.cell? ⟨b, off + i, none⟩ = some (.int .i32 (Z i))

/-- What a clone of n elements hands back: nil for nil; else the head of a new row. -/
def Made (t : TypeId) (p : Value → Prop) (w : World) (a : Option Addr) (n : Nat) (e : Ending) (w' : World) : Prop :=
  Below w.heap.size w w' ∧ ((a = none ∧ n = 0 ∧ e = .returned (.slice none 0 0)) ∨ (a ≠ none ∧ e = .returned (.slice (some ⟨w.heap.size, 0, none⟩) n n) ∧ ∃ vs, VRow t w' w.heap.size vs ∧ Each p n vs))

theorem made_nil (t : TypeId) (p : Value → Prop) (w : World) : Made t p w none 0 (.returned (.slice none 0 0)) w := ⟨Below.refl _ _, .inl ⟨rfl, rfl, rfl⟩⟩
theorem made_row (t : TypeId) (p : Value → Prop) (w w' : World) (x : Addr) (n : Nat) (vs : List Value) (hb : Below w.heap.size w w') (h : VRow t w' w.heap.size vs) (he : Each p n vs) :
    Made t p w (some x) n (.returned (.slice (some ⟨w.heap.size, 0, none⟩) n n)) w' := ⟨hb, .inr ⟨by simp, rfl, vs, h, he⟩⟩

set_option maxHeartbeats 400000 in
theorem clone32_nil (w : World) : Calls Try.prog 7 #[.slice none 0 0] w fun e w' => Made 21 IsI32 w none 0 e w' := by
  have hq := fun (w : World) (a : Option Addr) (n c n' c' : Nat) => Lib.run_eql_slice_nil (P := Try.prog) w _ _ a n c n' c' Try.underlying22
  go_enter Try.func7, Try.ntmps7
  go_wp2
  go_ret
  exact made_nil _ _ _

set_option maxHeartbeats 400000 in
theorem clone32_row (x : Addr) (len cap : Nat) (Z : Nat → Int) (w : World) (hm : len ≤ 65536) (h : Row32 w (some x) len Z) :
    Calls Try.prog 7 #[.slice (some x) len cap] w fun e w' => Made 21 IsI32 w (some x) len e w' := by
  have hq := fun (w : World) (a : Option Addr) (n c n' c' : Nat) => Lib.run_eql_slice_nil (P := Try.prog) w _ _ a n c n' c' Try.underlying22
  obtain ⟨i0, hi, hz0, hz1, hz2⟩ := info_parts Try.info21
  have HR : Hid (Row32 w (some x) len Z) := h
  clear h
  go_enter Try.func7, Try.ntmps7
  go_wp2_with (at_make; refine wpList_make_full _ rfl _ _ 22 rfl w.heap.size 21 i0 (.int .i32 0) 1 Try.underlying22 hi hz0 hz1 _ _ _ _ len rfl rfl rfl rfl ?b2 ?b3 (Nat.le_refl _) ?_)
  case b2 => rw [hz2]; omega
  case b3 => unfold maxLen; omega
  intro w0 hown hg
  have hG : VRow 21 w0 w.heap.size (List.replicate len (.int .i32 0)) := by
    have := own_vrow hown
    rwa [toList_madeCells_one] at this
  have hb0 : Below w.heap.size w w0 := (Below.refl _ _).grown hg (Nat.le_refl _) (fun k h => by cases h)
  clear hown hg hi hz0 hz1 hz2
  go_wp2_with fail
  go_loopw [4] (fun i wr => ∃ (k : Nat) (vs : List Value), k ≤ len ∧ i = .int .i64 k ∧ VRow 21 wr w.heap.size vs ∧ Each IsI32 len vs ∧ Below w.heap.size w wr) (fun i _ => len - (intOf i).toNat)
  case atStart => exact ⟨0, _, by omega, rfl, hG, Each.rep _ _ _ ⟨0, rfl⟩, hb0⟩
  case round =>
    obtain ⟨k, vs, hk, rfl, hgk, hek, hbk⟩ := hrel
    by_cases hlt : k < len
    · obtain ⟨b, off, e, hc⟩ := HR.out (by omega)
      obtain rfl : x = ⟨b, off, none⟩ := by simpa using e
      have h2 := cell_later hbk (hc k hlt)
      have h3 := hgk.frozen k
      obtain ⟨v, hv, n0, rfl⟩ := hek.2 k hlt
      have h4 := hgk.cell k
      rw [hv] at h4
      clear hc e hv
      go_wp2
      go_roundw
      case rel => exact ⟨k + 1, _, by omega, by go_num, hgk.set k _, hek.set k _ ⟨_, rfl⟩, hbk.setCell (Nat.le_refl _) _⟩
      case measure => simp [intOf]; omega
    · obtain rfl : len = k := by omega
      go_wp2
      go_ret
      exact made_row _ _ _ _ _ _ vs hbk hgk hek

theorem clone32_any (a : Option Addr) (len cap : Nat) (Z : Nat → Int) (w : World) (hm : len ≤ 65536) (h0 : a = none → len = 0 ∧ cap = 0) (h : Row32 w a len Z) :
    Calls Try.prog 7 #[.slice a len cap] w fun e w' => Made 21 IsI32 w a len e w' := by
  cases a with
  | none => obtain ⟨rfl, rfl⟩ := h0 rfl; exact clone32_nil w
  | some x => exact clone32_row x len cap Z w hm h

set_option maxHeartbeats 400000 in
theorem cloneT_nil (w : World) : Calls Try.prog 8 #[.slice none 0 0] w fun e w' => Made 24 IsSl w none 0 e w' := by
  have hq := fun (w : World) (a : Option Addr) (n c n' c' : Nat) => Lib.run_eql_slice_nil (P := Try.prog) w _ _ a n c n' c' Try.underlying23
  go_enter Try.func8, Try.ntmps8
  go_wp2
  go_ret
  exact made_nil _ _ _

set_option maxHeartbeats 400000 in
theorem cloneT_row (x : Addr) (len cap : Nat) (A : Nat → Option Addr) (L C : Nat → Nat) (Y : Nat → List Int) (w : World) (hm : len ≤ 65536) (h : Tab w (some x) len A L C Y) (hL : ∀ i, i < len → L i ≤ 1048576) :
    Calls Try.prog 8 #[.slice (some x) len cap] w fun e w' => Made 24 IsSl w (some x) len e w' := by
  have hq := fun (w : World) (a : Option Addr) (n c n' c' : Nat) => Lib.run_eql_slice_nil (P := Try.prog) w _ _ a n c n' c' Try.underlying23
  obtain ⟨i0, hi, hz0, hz1, hz2⟩ := info_parts Try.info24
  have HR : Hid (Tab w (some x) len A L C Y) := h
  have HL : Hid (∀ i, i < len → L i ≤ 1048576) := hL
  clear h hL
  go_enter Try.func8, Try.ntmps8
  go_wp2_with (at_make; refine wpList_make_full _ rfl _ _ 23 rfl w.heap.size 24 i0 (.slice none 0 0) 1 Try.underlying23 hi hz0 hz1 _ _ _ _ len rfl rfl rfl rfl ?b2 ?b3 (Nat.le_refl _) ?_)
  case b2 => rw [hz2]; omega
  case b3 => unfold maxLen; omega
  intro w0 hown hg
  have hG : VRow 24 w0 w.heap.size (List.replicate len (.slice none 0 0)) := by
    have := own_vrow hown
    rwa [toList_madeCells_one] at this
  have hb0 : Below w.heap.size w w0 := (Below.refl _ _).grown hg (Nat.le_refl _) (fun k h => by cases h)
  clear hown hg hi hz0 hz1 hz2
  go_wp2_with fail
  go_loopw [4] (fun i wr => ∃ (k : Nat) (vs : List Value), k ≤ len ∧ i = .int .i64 k ∧ VRow 24 wr w.heap.size vs ∧ Each IsSl len vs ∧ Below w.heap.size w wr) (fun i _ => len - (intOf i).toNat)
  case atStart => exact ⟨0, _, by omega, rfl, hG, Each.rep _ _ _ ⟨none, 0, 0, rfl⟩, hb0⟩
  case round =>
    obtain ⟨k, vs, hk, rfl, hgk, hek, hbk⟩ := hrel
    by_cases hlt : k < len
    · obtain ⟨b, off, e, h2⟩ := HR.out.at hbk k hlt
      obtain rfl : x = ⟨b, off, none⟩ := by simpa using e
      clear e
      go_wp2_with fail
      refine (clone_any (A k) (L k) (C k) (Y k) _ ((HR.out.2 k hlt).kept hbk) (HL.out k hlt)).mono ?_
      rintro e w1 ⟨a', rfl, _, hb1⟩
      have hg1 := hgk.later hb1
      have h3 := hg1.frozen k
      obtain ⟨v, hv, va, vl, vc, rfl⟩ := hek.2 k hlt
      have h4 := hg1.cell k
      rw [hv] at h4
      have hb2 := hbk.trans (hb1.mono hbk.size)
      clear hv
      go_wp2
      go_roundw
      case rel => exact ⟨k + 1, _, by omega, by go_num, hg1.set k _, hek.set k _ ⟨_, _, _, rfl⟩, hb2.setCell (Nat.le_refl _) _⟩
      case measure => simp [intOf]; omega
    · obtain rfl : len = k := by omega
      go_wp2
      go_ret
      exact made_row _ _ _ _ _ _ vs hbk hgk hek

theorem cloneT_any (a : Option Addr) (len cap : Nat) (A : Nat → Option Addr) (L C : Nat → Nat) (Y : Nat → List Int) (w : World) (hm : len ≤ 65536) (h0 : a = none → len = 0 ∧ cap = 0) (h : Tab w a len A L C Y) (hL : ∀ i, i < len → L i ≤ 1048576) :
    Calls Try.prog 8 #[.slice a len cap] w fun e w' => Made 24 IsSl w a len e w' := by
  cases a with
  | none => obtain ⟨rfl, rfl⟩ := h0 rfl; exact cloneT_nil w
  | some x => exact cloneT_row x len cap A L C Y w hm h hL
end Go.Proofs.Qxb6602484a

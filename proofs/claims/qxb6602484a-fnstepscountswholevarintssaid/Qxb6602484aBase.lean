/- The notions on rows of bytes that the call owns, and the contracts of the clone (function 9) and of the steps (functions 13, 10). -/
import Derived.Test.Qxb6602484aProg
import Derived.WalkKit
import Derived.WalkSpells
import Derived.WalkSmall
import Derived.OpenShut
namespace Go.Proofs.Qxb6602484a
set_option linter.unusedVariables false
open Go.RowKit

/-- A slice of bytes that came in, or that a caller hands on: nil, or its elements' cells are known. 'ys': its elements. -/
def Row8 (w : World) (a : Option Addr) (len cap : Nat) (ys : List Int) : Prop :=
  ys.length = len ∧ (∀ i : Nat, 0 ≤ ys[i]?.getD 0 ∧ ys[i]?.getD 0 ≤ 255) ∧
  ((a = none ∧ len = 0 ∧ cap = 0) ∨
  ∃ x, a = some x ∧ len ≤ cap ∧ (∀ i, i < len → w.cell? (x.add i) = some (.int .u8 (ys.getD i 0))))

theorem row8_of {w : World} {a : Option Addr} {len cap : Nat} {zs : List Int}
    (h : (a = none ∧ len = 0 ∧ cap = 0 ∧ zs = []) ∨
      ∃ x, a = some x ∧ len ≤ cap ∧ cap ≤ maxLen ∧ zs.length = cap ∧ (∀ i, i < zs.length → w.cell? (x.add i) = some (.int .u8 (zs.getD i 0))) ∧ ∀ n ∈ zs, (Lit.int .u8 n).wf = true) :
    ∃ ys, Row8 w a len cap ys := by
  rcases h with ⟨rfl, rfl, rfl, rfl⟩ | ⟨x, rfl, hl, _, hz, hc, hwf⟩
  · exact ⟨[], rfl, by simp, .inl ⟨rfl, rfl, rfl⟩⟩
  · refine ⟨zs.take len, by simp; omega, ?_, .inr ⟨x, rfl, hl, ?_⟩⟩
    · intro i
      rcases Nat.lt_or_ge i (zs.take len).length with h | h
      · have hm : (zs.take len)[i] ∈ zs := List.mem_of_mem_take (List.getElem_mem h)
        have := bounds_u8 (hwf _ hm)
        rw [List.getElem?_eq_getElem h]
        simpa using this
      · rw [List.getElem?_eq_none h]; simp
    · intro i hi
      rw [hc i (by omega)]
      simp [hi]

/-- Block g is a row of bytes, known whole, not frozen. -/
def BRow (w : World) (g : Nat) (zs : List Int) : Prop := w.heap[g]? = some (.cells (zs.map (Value.int .u8)).toArray 5 (0, 0))

theorem BRow.lt {w : World} {g : Nat} {zs : List Int} (h : BRow w g zs) : g < w.heap.size := (Array.getElem?_eq_some_iff.1 h).1

theorem BRow.cell {w : World} {g : Nat} {zs : List Int} (h : BRow w g zs) (i : Nat) (hi : i < zs.length) : w.cell? ⟨g, i, none⟩ = some (.int .u8 (zs.getD i 0)) := by
  rw [cell_of_row w g i _ 5 (0, 0) h]
  simp [hi]

theorem BRow.frozen {w : World} {g : Nat} {zs : List Int} (h : BRow w g zs) (i : Nat) : w.frozen? ⟨g, i, none⟩ = false := frozen_of_row w g i _ 5 h

theorem BRow.set {w : World} {g : Nat} {zs : List Int} (h : BRow w g zs) (i : Nat) (x : Int) : BRow (w.setCell ⟨g, i, none⟩ (.int .u8 x)) g (zs.set i x) := by
  unfold BRow
  rw [heap_setCell_same w g i _ 5 _ h]
  simp [List.map_set]

theorem BRow.below {w w' : World} {g B : Nat} {zs : List Int} (h : BRow w g zs) (hb : Below B w w') (hg : g < B) : BRow w' g zs := (hb.block g hg).trans h

theorem BRow.later {w w' : World} {g : Nat} {zs : List Int} (h : BRow w g zs) (hb : Below w.heap.size w w') : BRow w' g zs := h.below hb h.lt

theorem BRow.grown {w w' : World} {g g' : Nat} {zs : List Int} (h : BRow w g zs) (hb : w.grownBy w' (some g')) (hg : g ≠ g') : BRow w' g zs := (hb.block g h.lt (fun e => hg (by simpa using e))).trans h

theorem BRow.other {w : World} {g : Nat} {zs : List Int} (h : BRow w g zs) {a : Addr} (hg : g ≠ a.block) (v : Value) : BRow (w.setCell a v) g zs := (heap_setCell_other w a g v hg).trans h

theorem grow_trans {w w1 w2 : World} {g : Nat} (h : w.grownBy w1 (some g)) (k : w1.grownBy w2 (some g)) : w.grownBy w2 (some g) :=
  ⟨k.os.trans h.os, k.tape.trans h.tape, k.output.trans h.output, Nat.le_trans h.size k.size, fun i hi hn => (k.block i (Nat.lt_of_lt_of_le hi h.size) hn).trans (h.block i hi hn)⟩

theorem grow_set (w : World) (g i : Nat) (v : Value) : w.grownBy (w.setCell ⟨g, i, none⟩ v) (some g) :=
  ⟨rfl, rfl, rfl, by simp [World.setCell], fun k _ hk => heap_setCell_other w ⟨g, i, none⟩ k v (fun e => hk (by simp [e]))⟩

theorem grow_below {w w1 w2 : World} {g : Nat} (h : w.grownBy w1 (some g)) (k : Below w1.heap.size w1 w2) : w.grownBy w2 (some g) :=
  ⟨k.os.trans h.os, k.tape.trans h.tape, k.output.trans h.output, Nat.le_trans h.size k.size, fun i hi hn => (k.block i (Nat.lt_of_lt_of_le hi h.size)).trans (h.block i hi hn)⟩

theorem below_grow {w w1 w2 : World} {g : Nat} (h : Below w.heap.size w w1) (k : w1.grownBy w2 (some g)) : w.grownBy w2 (some g) :=
  ⟨k.os.trans h.os, k.tape.trans h.tape, k.output.trans h.output, Nat.le_trans h.size k.size, fun i hi hn => (k.block i (Nat.lt_of_lt_of_le hi h.size) hn).trans (h.block i hi)⟩

theorem BRow.new (w : World) (zs : List Int) : BRow (w.alloc (.cells (zs.map (Value.int .u8)).toArray 5)) w.heap.size zs := heap_alloc_new w _

theorem own_block {w : World} {base g n : Nat} {xs : List Value} (h : w.ownsRow base 5 1 (.slice (some ⟨g, 0, none⟩) n n) n xs) : w.heap[g]? = some (.cells xs.toArray 5 (0, 0)) := by
  rcases h.2 with ⟨h', _⟩ | ⟨g', cap', cur, h', _, hg, _, _, hcs, htake⟩
  · simp at h'
  · simp only [Value.slice.injEq, Option.some.injEq, Addr.mk.injEq, and_true, true_and] at h'
    obtain ⟨rfl, rfl⟩ := h'
    have : cur.toList = xs := by rw [← htake, List.take_of_length_le (by simp; omega)]
    rw [hg, ← this]


theorem Try.info5 : (Try.prog.info? 5).map (fun i => (i.zero, i.size, i.bytes)) = some (some (.int .u8 0), 1, 1) := by kernel_rfl

theorem row_at {w : World} {a : Option Addr} {len cap : Nat} {ys : List Int} (h : Row8 w a len cap ys) (hp : 0 < len) :
    ∃ b off, a = some ⟨b, off, none⟩ ∧ len ≤ cap ∧ ∀ i, i < len → w.cell? ⟨b, off + i, none⟩ = some (.int .u8 (ys[i]?.getD 0)) := by
  obtain ⟨_, _, ⟨_, h, _⟩ | ⟨x, rfl, hl, hc⟩⟩ := h
  · omega
  · obtain ⟨b, off, spot⟩ := x
    have h0 := hc 0 hp
    have hspot : spot = none := by simpa [Addr.add] using World.cell?_spot h0
    subst hspot
    exact ⟨b, off, rfl, hl, fun i hi => by have := hc i hi; simp only [Addr.add] at this; split at this <;> simp_all⟩

theorem Row8.kept {w w' : World} {a : Option Addr} {len cap : Nat} {ys : List Int} (h : Row8 w a len cap ys) (hb : Below w.heap.size w w') : Row8 w' a len cap ys := by
  obtain ⟨h1, h2, h | ⟨x, hx, hl, hc⟩⟩ := h
  · exact ⟨h1, h2, .inl h⟩
  · exact ⟨h1, h2, .inr ⟨x, hx, hl, fun i hi => cell_later hb (hc i hi)⟩⟩

/-- A clone's value: nil, or the head of a row of its own. -/
def Cloned (w : World) (a : Option Addr) (g : Nat) (ys : List Int) : Prop := (a = none ∧ ys = []) ∨ (a = some ⟨g, 0, none⟩ ∧ BRow w g ys)

theorem Cloned.later {w w' : World} {a : Option Addr} {g : Nat} {ys : List Int} (h : Cloned w a g ys) (hb : Below w.heap.size w w') : Cloned w' a g ys := by
  rcases h with h | ⟨h1, h2⟩
  · exact .inl h
  · exact .inr ⟨h1, h2.later hb⟩

theorem Cloned.lt {w : World} {a : Option Addr} {g : Nat} {ys : List Int} (h : Cloned w a g ys) : ∀ x, a = some x → g < w.heap.size := by
  rintro x rfl
  rcases h with ⟨h, _⟩ | ⟨_, h2⟩
  · cases h
  · exact h2.lt

theorem Cloned.grown {w w' : World} {a : Option Addr} {g g' : Nat} {ys : List Int} (h : Cloned w a g ys) (hb : w.grownBy w' (some g')) (hg : ∀ x, a = some x → g ≠ g') : Cloned w' a g ys := by
  rcases h with h | ⟨h1, h2⟩
  · exact .inl h
  · exact .inr ⟨h1, h2.grown hb (hg _ h1)⟩


theorem Cloned.row8 {w : World} {a : Option Addr} {g len : Nat} {ys : List Int} (h : Cloned w a g ys) (hl : ys.length = len) (hb : ∀ i : Nat, 0 ≤ ys[i]?.getD 0 ∧ ys[i]?.getD 0 ≤ 255) : Row8 w a len len ys := by
  subst hl
  rcases h with ⟨rfl, rfl⟩ | ⟨rfl, h⟩
  · exact ⟨rfl, hb, .inl ⟨rfl, rfl, rfl⟩⟩
  · exact ⟨rfl, hb, .inr ⟨_, rfl, Nat.le_refl _, fun i hi => by rw [Addr.add_lit, Nat.zero_add]; exact h.cell i hi⟩⟩

theorem Cloned.some {w : World} {a : Option Addr} {g : Nat} {ys : List Int} (h : Cloned w a g ys) (hp : 0 < ys.length) : a = Option.some ⟨g, 0, none⟩ ∧ BRow w g ys := by
  rcases h with ⟨_, rfl⟩ | h
  · simp at hp
  · exact h

/-- A row filled from its head. -/
def fill (ys : List Int) (n k : Nat) : List Int := ys.take k ++ List.replicate (n - k) 0

theorem fill_zero (ys : List Int) (n : Nat) : fill ys n 0 = List.replicate n 0 := by simp [fill]

theorem fill_full (ys : List Int) (n : Nat) (h : ys.length = n) : fill ys n n = ys := by simp [fill, ← h]

theorem length_fill (ys : List Int) (n k : Nat) (h : k ≤ ys.length) (h2 : k ≤ n) : (fill ys n k).length = n := by simp [fill]; omega

theorem fill_set (ys : List Int) (n k : Nat) (h : k < ys.length) (h2 : k < n) : (fill ys n k).set k (ys[k]?.getD 0) = fill ys n (k + 1) := by
  unfold fill
  rw [List.set_append_right _ _ (by simp; omega)]
  obtain ⟨m, hm⟩ : ∃ m, n - k = m + 1 := ⟨n - k - 1, by omega⟩
  rw [hm, show n - (k + 1) = m by omega, List.length_take, Nat.min_eq_left (by omega), Nat.sub_self, List.replicate_succ, List.set_cons_zero, List.take_succ_eq_append_getElem h, List.append_assoc, List.getElem?_eq_getElem h]
  rfl

set_option maxHeartbeats 400000 in
theorem clone_nil (w : World) :
    Calls Try.prog 9 #[.slice none 0 0] w fun e w' => e = .returned (.slice none 0 0) ∧ w' = w := by
  have hq := fun (w : World) (a : Option Addr) (n c n' c' : Nat) => Lib.run_eql_slice_nil (P := Try.prog) w _ _ a n c n' c' Try.underlying24
  go_enter Try.func9, Try.ntmps9
  go_wp2
  go_ret
  exact ⟨rfl, rfl⟩

set_option maxHeartbeats 400000 in
theorem clone_row (x : Addr) (len cap : Nat) (zs : List Int) (w : World) (hm : len ≤ 1048576) (hz : zs.length = len)
    (hc : ∀ i, i < len → w.cell? (x.add i) = some (.int .u8 (zs.getD i 0))) :
    Calls Try.prog 9 #[.slice (some x) len cap] w fun e w' => e = .returned (.slice (some ⟨w.heap.size, 0, none⟩) len len) ∧ BRow w' w.heap.size zs ∧ Below w.heap.size w w' := by
  have hq := fun (w : World) (a : Option Addr) (n c n' c' : Nat) => Lib.run_eql_slice_nil (P := Try.prog) w _ _ a n c n' c' Try.underlying24
  obtain ⟨i0, hi, hz0, hz1, hz2⟩ := info_parts Try.info5
  have HC : Hid (∀ i, i < len → w.cell? (x.add i) = some (.int .u8 (zs.getD i 0))) := hc
  have HZ : Hid (zs.length = len) := hz
  clear hc hz
  go_enter Try.func9, Try.ntmps9
  go_wp2_with (at_make; refine wpList_make_full _ rfl _ _ 24 rfl w.heap.size 5 i0 (.int .u8 0) 1 Try.underlying24 hi hz0 hz1 _ _ _ _ len rfl rfl rfl rfl ?b2 ?b3 (Nat.le_refl _) ?_)
  case b2 => rw [hz2]; omega
  case b3 => unfold maxLen; omega
  intro w0 hown hg
  have hG : BRow w0 w.heap.size (List.replicate len 0) := by
    have := own_block hown
    rw [toList_madeCells_one] at this
    simpa [BRow] using this
  have hb0 : Below w.heap.size w w0 := (Below.refl _ _).grown hg (Nat.le_refl _) (fun k h => by cases h)
  clear hown hg hi hz0 hz1 hz2
  go_wp2_with fail
  go_loopw [4] (fun i wr => ∃ k : Nat, k ≤ len ∧ i = .int .i64 k ∧ BRow wr w.heap.size (fill zs len k) ∧ Below w.heap.size w wr) (fun i _ => len - (intOf i).toNat)
  case atStart => exact ⟨0, by omega, rfl, by rw [fill_zero]; exact hG, hb0⟩
  case round =>
    obtain ⟨k, hk, rfl, hgk, hbk⟩ := hrel
    by_cases hlt : k < len
    · obtain ⟨b, off, spot⟩ := x
      have hspot : spot = none := by simpa [Addr.add] using World.cell?_spot (HC.out 0 (by omega))
      subst hspot
      have h1 := HC.out k hlt
      rw [Addr.add_lit] at h1
      have h2 := cell_later hbk h1
      have h3 := hgk.frozen k
      have h4 := hgk.cell k (by rw [length_fill _ _ _ (by rw [HZ.out]; omega) hk]; omega)
      clear h1
      go_wp2
      go_roundw
      case rel => exact ⟨k + 1, by omega, by go_num, by have := hgk.set k (zs[k]?.getD 0); rwa [fill_set _ _ _ (by rw [HZ.out]; omega) hlt] at this, hbk.setCell (Nat.le_refl _) _⟩
      case measure => simp [intOf]; omega
    · obtain rfl : len = k := by omega
      go_wp2
      go_ret
      rw [fill_full _ _ HZ.out] at hgk
      exact ⟨rfl, hgk, hbk⟩

theorem clone_any (a : Option Addr) (len cap : Nat) (ys : List Int) (w : World) (h : Row8 w a len cap ys) (hm : len ≤ 1048576) :
    Calls Try.prog 9 #[.slice a len cap] w fun e w' => ∃ a', e = .returned (.slice a' len len) ∧ Cloned w' a' w.heap.size ys ∧ Below w.heap.size w w' := by
  obtain ⟨hlen, _, ⟨rfl, rfl, rfl⟩ | ⟨x, rfl, _, hc⟩⟩ := h
  · refine (clone_nil w).mono ?_
    rintro e w' ⟨rfl, rfl⟩
    exact ⟨none, rfl, .inl ⟨rfl, List.eq_nil_of_length_eq_zero hlen⟩, Below.refl _ _⟩
  · refine (clone_row x len cap ys w hm hlen hc).mono ?_
    rintro e w' ⟨rfl, hr, hb⟩
    exact ⟨_, rfl, .inr ⟨rfl, hr⟩, hb⟩

/-! The steps -/
/-- How many of the first k bytes end a varint. -/
def cnt : Nat → List Int → Int
  | 0, _ => 0
  | k + 1, ys => cnt k ys + if ys[k]?.getD 0 < 128 then 1 else 0

theorem cnt_bd (ys : List Int) (k : Nat) : 0 ≤ cnt k ys ∧ cnt k ys ≤ k := by
  induction k with
  | zero => simp [cnt]
  | succ k ih => simp only [cnt]; split <;> omega

set_option maxHeartbeats 400000 in
theorem steps_plain (ms : Int) (ex : Bool) (la ba : Option Addr) (ll lc len cap : Nat) (w : World) :
    Calls Try.prog 13 #[.agg #[.bool false, .slice la ll lc, .int .i64 ms, .bool ex], .slice ba len cap] w fun e w' => e = .returned (.int .i64 1) ∧ Below w.heap.size w w' := by
  go_enter Try.func13, Try.ntmps13
  go_wp2
  go_ret
  exact ⟨rfl, (Below.refl _ _).alloc (Nat.le_refl _) _⟩

set_option maxHeartbeats 400000 in
theorem steps_row (ms : Int) (ex : Bool) (la : Option Addr) (ll lc b off len cap : Nat) (ys : List Int) (w : World) (hl : len ≤ 1048576) (hbw : 0 < len → b < w.heap.size)
    (hc : ∀ i, i < len → w.cell? ⟨b, off + i, none⟩ = some (.int .u8 (ys[i]?.getD 0))) :
    Calls Try.prog 13 #[.agg #[.bool true, .slice la ll lc, .int .i64 ms, .bool ex], .slice (some ⟨b, off, none⟩) len cap] w fun e w' => e = .returned (.int .i64 (cnt len ys)) ∧ Below w.heap.size w w' := by
  have HC : Hid (∀ i, i < len → w.cell? ⟨b, off + i, none⟩ = some (.int .u8 (ys[i]?.getD 0))) := hc
  have HB : Hid (0 < len → b < w.heap.size) := hbw
  clear hc hbw
  go_enter Try.func13, Try.ntmps13
  go_wp2
  go_loop [5, 13] (fun n i => ∃ k : Nat, k ≤ len ∧ i = .int .i64 k ∧ n = .int .i64 (cnt k ys)) (fun _ i => len - (intOf i).toNat)
  case atStart => exact ⟨0, by omega, rfl, rfl⟩
  case round =>
    obtain ⟨k, hk, rfl, rfl⟩ := hrel
    have hd := cnt_bd ys k
    have hd1 := hd.1
    have hd2 := hd.2
    clear hd
    by_cases hlt : k < len
    · have h1 := HC.out k hlt
      have h2 := HB.out (by omega)
      have hki : (k : Int) < (len : Int) := by omega
      by_cases hz : ys[k]?.getD 0 < 128
      · go_wp2
        go_round
        case rel => exact ⟨k + 1, by omega, by go_num, by simp only [cnt]; rw [if_pos hz]⟩
        case measure => simp [intOf]; omega
      · go_wp2
        go_round
        case rel => exact ⟨k + 1, by omega, by go_num, by simp only [cnt]; rw [if_neg hz, Int.add_zero]⟩
        case measure => simp [intOf]; omega
    · obtain rfl : len = k := by omega
      go_wp2
      go_ret
      exact ⟨rfl, (Below.refl _ _).alloc (Nat.le_refl _) _⟩

set_option maxHeartbeats 400000 in
theorem steps_none (ms : Int) (ex : Bool) (la ba : Option Addr) (ll lc cap : Nat) (w : World) :
    Calls Try.prog 13 #[.agg #[.bool true, .slice la ll lc, .int .i64 ms, .bool ex], .slice ba 0 cap] w fun e w' => e = .returned (.int .i64 0) ∧ Below w.heap.size w w' := by
  go_enter Try.func13, Try.ntmps13
  go_wp2
  refine wp_loop_rounds 1 ?_
  rw [rounds_succ]
  go_wp2
  go_ret
  exact ⟨rfl, (Below.refl _ _).alloc (Nat.le_refl _) _⟩

/-- What steps answers. -/
def stepsOf (c : Bool) (len : Nat) (ys : List Int) : Int := if c then cnt len ys else 1

theorem steps_any (c : Bool) (ms : Int) (ex : Bool) (la ba : Option Addr) (ll lc len cap : Nat) (ys : List Int) (w : World) (hl : len ≤ 1048576) (h : Row8 w ba len cap ys) :
    Calls Try.prog 13 #[.agg #[.bool c, .slice la ll lc, .int .i64 ms, .bool ex], .slice ba len cap] w fun e w' => e = .returned (.int .i64 (stepsOf c len ys)) ∧ Below w.heap.size w w' := by
  cases c with
  | false => exact steps_plain ms ex la ba ll lc len cap w
  | true =>
    by_cases h0 : len = 0
    · subst h0
      exact steps_none ms ex la ba ll lc cap w
    · obtain ⟨b, off, rfl, _, hc⟩ := row_at h (by omega)
      exact steps_row ms ex la ll lc b off len cap ys w hl (fun h0 => World.block_lt_of_cell? _ _ (hc 0 h0)) hc

set_option maxHeartbeats 400000 in
theorem zz_steps (c : Bool) (ms : Int) (ex : Bool) (la ba : Option Addr) (ll lc len cap : Nat) (ys : List Int) (w : World) (hl : len ≤ 1048576) (h : Row8 w ba len cap ys) :
    Calls Try.prog 10 #[.bool c, .slice la ll lc, .int .i64 ms, .bool ex, .slice ba len cap] w fun e w' => e = .returned (.int .i64 (stepsOf c len ys)) ∧ Below w.heap.size w w' := by
  have H : Hid (Row8 w ba len cap ys) := h
  clear h
  go_enter Try.func10, Try.ntmps10
  go_wp2_with fail
  refine (steps_any c ms ex la ba ll lc len cap ys w hl H.out).mono ?_
  rintro e w1 ⟨rfl, hb⟩
  go_wp2
  go_ret
  exact ⟨rfl, hb⟩
end Go.Proofs.Qxb6602484a

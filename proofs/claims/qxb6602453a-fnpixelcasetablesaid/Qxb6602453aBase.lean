/- The notions on rows of bytes that the call owns, and the contract of the clone (function 6). -/
import Derived.Test.Qxb6602453aProg
import Derived.WalkKit
import Derived.WalkSpells
import Derived.Laws.CopyOwn
import Derived.OpenShut
namespace Go.Proofs.Qxb6602453a
open Go.RowKit

/-- A slice of bytes that came in, or that a caller hands on: nil, or its elements' cells are known. 'ys': its elements. -/
def Row8 (w : World) (a : Option Addr) (len cap : Nat) (ys : List Int) : Prop :=
  ys.length = len ∧ (∀ i : Nat, 0 ≤ ys[i]?.getD 0 ∧ ys[i]?.getD 0 ≤ 255) ∧
  ((a = none ∧ len = 0 ∧ cap = 0) ∨
  ∃ x, a = some x ∧ len ≤ cap ∧ (∀ i, i < len → w.cell? (x.add i) = some (.int .u8 (ys.getD i 0))))

theorem row8_of {w : World} {a : Option Addr} {len cap : Nat} {zs : List Int}
    (h : (a = none ∧ len = 0 ∧ cap = 0 ∧ zs = []) ∨
      ∃ x, a = some x ∧ len ≤ cap ∧ cap ≤ maxLen ∧ zs.length = cap ∧ (∀ i, i < zs.length → w.cell? (x.add i) = some (.int .u8 (zs.getD i 0))) ∧ ∀ n ∈ zs, (Lit.int .u8 n).wf = true) :
    ∃ ys, Row8 w a len cap ys := by
  rcases h with ⟨rfl, rfl, rfl, rfl⟩ | ⟨x, rfl, hl, _, hz, hc, hwf⟩
  · exact ⟨[], rfl, by simp, .inl ⟨rfl, rfl, rfl⟩⟩
  · refine ⟨zs.take len, by simp; omega, ?_, .inr ⟨x, rfl, hl, ?_⟩⟩
    · intro i
      rcases Nat.lt_or_ge i (zs.take len).length with h | h
      · have hm : (zs.take len)[i] ∈ zs := List.mem_of_mem_take (List.getElem_mem h)
        have := bounds_u8 (hwf _ hm)
        rw [List.getElem?_eq_getElem h]
        simpa using this
      · rw [List.getElem?_eq_none h]; simp
    · intro i hi
      rw [hc i (by omega)]
      simp [hi]

/-- Block g is a row of bytes, known whole, not frozen. -/
def BRow (w : World) (g : Nat) (zs : List Int) : Prop := w.heap[g]? = some (.cells (zs.map (Value.int .u8)).toArray 5 (0, 0))

theorem BRow.lt {w : World} {g : Nat} {zs : List Int} (h : BRow w g zs) : g < w.heap.size := (Array.getElem?_eq_some_iff.1 h).1

theorem BRow.cell {w : World} {g : Nat} {zs : List Int} (h : BRow w g zs) (i : Nat) (hi : i < zs.length) : w.cell? ⟨g, i, none⟩ = some (.int .u8 (zs.getD i 0)) := by
  rw [cell_of_row w g i _ 5 (0, 0) h]
  simp [hi]

theorem BRow.frozen {w : World} {g : Nat} {zs : List Int} (h : BRow w g zs) (i : Nat) : w.frozen? ⟨g, i, none⟩ = false := frozen_of_row w g i _ 5 h

theorem BRow.set {w : World} {g : Nat} {zs : List Int} (h : BRow w g zs) (i : Nat) (x : Int) : BRow (w.setCell ⟨g, i, none⟩ (.int .u8 x)) g (zs.set i x) := by
  unfold BRow
  rw [heap_setCell_same w g i _ 5 _ h]
  simp [List.map_set]

theorem BRow.below {w w' : World} {g B : Nat} {zs : List Int} (h : BRow w g zs) (hb : Below B w w') (hg : g < B) : BRow w' g zs := (hb.block g hg).trans h

theorem BRow.later {w w' : World} {g : Nat} {zs : List Int} (h : BRow w g zs) (hb : Below w.heap.size w w') : BRow w' g zs := h.below hb h.lt

theorem BRow.grown {w w' : World} {g g' : Nat} {zs : List Int} (h : BRow w g zs) (hb : w.grownBy w' (some g')) (hg : g ≠ g') : BRow w' g zs := (hb.block g h.lt (fun e => hg (by simpa using e))).trans h

theorem BRow.other {w : World} {g : Nat} {zs : List Int} (h : BRow w g zs) {a : Addr} (hg : g ≠ a.block) (v : Value) : BRow (w.setCell a v) g zs := (heap_setCell_other w a g v hg).trans h

theorem grow_trans {w w1 w2 : World} {g : Nat} (h : w.grownBy w1 (some g)) (k : w1.grownBy w2 (some g)) : w.grownBy w2 (some g) :=
  ⟨k.os.trans h.os, k.tape.trans h.tape, k.output.trans h.output, Nat.le_trans h.size k.size, fun i hi hn => (k.block i (Nat.lt_of_lt_of_le hi h.size) hn).trans (h.block i hi hn)⟩

theorem grow_set (w : World) (g i : Nat) (v : Value) : w.grownBy (w.setCell ⟨g, i, none⟩ v) (some g) :=
  ⟨rfl, rfl, rfl, by simp [World.setCell], fun k _ hk => heap_setCell_other w ⟨g, i, none⟩ k v (fun e => hk (by simp [e]))⟩

theorem grow_below {w w1 w2 : World} {g : Nat} (h : w.grownBy w1 (some g)) (k : Below w1.heap.size w1 w2) : w.grownBy w2 (some g) :=
  ⟨k.os.trans h.os, k.tape.trans h.tape, k.output.trans h.output, Nat.le_trans h.size k.size, fun i hi hn => (k.block i (Nat.lt_of_lt_of_le hi h.size)).trans (h.block i hi hn)⟩

theorem below_grow {w w1 w2 : World} {g : Nat} (h : Below w.heap.size w w1) (k : w1.grownBy w2 (some g)) : w.grownBy w2 (some g) :=
  ⟨k.os.trans h.os, k.tape.trans h.tape, k.output.trans h.output, Nat.le_trans h.size k.size, fun i hi hn => (k.block i (Nat.lt_of_lt_of_le hi h.size) hn).trans (h.block i hi)⟩

theorem BRow.new (w : World) (zs : List Int) : BRow (w.alloc (.cells (zs.map (Value.int .u8)).toArray 5)) w.heap.size zs := heap_alloc_new w _

theorem make3 (w : World) : (Instr.makeSlice 22 (.int .i64 3) (.int .i64 3)).run Try.prog w = .ok (.slice (some ⟨w.heap.size, 0, none⟩) 3 3) (w.alloc (.cells #[.int .u8 0, .int .u8 0, .int .u8 0] 5)) := by kernel_rfl

theorem own_block {w : World} {base g n : Nat} {xs : List Value} (h : w.ownsRow base 5 1 (.slice (some ⟨g, 0, none⟩) n n) n xs) : w.heap[g]? = some (.cells xs.toArray 5 (0, 0)) := by
  rcases h.2 with ⟨h', _⟩ | ⟨g', cap', cur, h', _, hg, _, _, hcs, htake⟩
  · simp at h'
  · simp only [Value.slice.injEq, Option.some.injEq, Addr.mk.injEq, and_true, true_and] at h'
    obtain ⟨rfl, rfl⟩ := h'
    have : cur.toList = xs := by rw [← htake, List.take_of_length_le (by simp; omega)]
    rw [hg, ← this]

theorem Try.info5 : (Try.prog.info? 5).map (fun i => (i.zero, i.size, i.bytes)) = some (some (.int .u8 0), 1, 1) := by kernel_rfl

set_option maxHeartbeats 400000 in
theorem clone_nil (w : World) :
    Calls Try.prog 6 #[.slice none 0 0] w fun e w' => e = .returned (.slice none 0 0) ∧ w' = w := by
  have hq := fun (w : World) (a : Option Addr) (n c n' c' : Nat) => Lib.run_eql_slice_nil (P := Try.prog) w _ _ a n c n' c' Try.underlying22
  go_enter Try.func6, Try.ntmps6
  go_wp2
  go_ret
  exact ⟨rfl, rfl⟩

set_option maxHeartbeats 400000 in
theorem clone_row (x : Addr) (len cap : Nat) (zs : List Int) (w : World) (hm : len ≤ 1048576) (hz : zs.length = len)
    (hc : ∀ i, i < len → w.cell? (x.add i) = some (.int .u8 (zs.getD i 0))) :
    Calls Try.prog 6 #[.slice (some x) len cap] w fun e w' => e = .returned (.slice (some ⟨w.heap.size, 0, none⟩) len len) ∧ BRow w' w.heap.size zs ∧ Below w.heap.size w w' := by
  have hq := fun (w : World) (a : Option Addr) (n c n' c' : Nat) => Lib.run_eql_slice_nil (P := Try.prog) w _ _ a n c n' c' Try.underlying22
  obtain ⟨i0, hi, hz0, hz1, hz2⟩ := info_parts Try.info5
  go_enter Try.func6, Try.ntmps6
  go_wp2_with (at_make; refine wpList_make_full _ rfl _ _ 22 rfl w.heap.size 5 i0 (.int .u8 0) 1 Try.underlying22 hi hz0 hz1 _ _ _ _ len rfl rfl rfl rfl ?b2 ?b3 (Nat.le_refl _) ?_)
  case b2 => rw [hz2]; omega
  case b3 => unfold maxLen; omega
  intro w0 hown hg
  have hG : w0.heap[w.heap.size]? = some (.cells (List.replicate len (Value.int .u8 0)).toArray 5 (0, 0)) := by
    have := own_block hown
    rwa [toList_madeCells_one] at this
  have hb0 : Below w.heap.size w w0 := (Below.refl _ _).grown hg (Nat.le_refl _) (fun k h => by cases h)
  obtain ⟨X, hX⟩ : ∃ X, X = zs.map (Value.int .u8) := ⟨_, rfl⟩
  have hXl : X.length = len := by rw [hX]; simp; omega
  have hXo : ∀ v ∈ X, v.oneCell' = true := by intro v hv; rw [hX] at hv; obtain ⟨n, _, rfl⟩ := List.mem_map.1 hv; rfl
  have hXc : ∀ j v, X[j]? = some v → w0.cell? (x.add j) = some v := by
    intro j v hv
    have hj : j < len := by
      have := (List.getElem?_eq_some_iff.1 hv).1
      omega
    have h1 := hc j (by omega)
    have h2 : v = .int .u8 (zs.getD j 0) := by
      rw [hX] at hv
      simp [show j < zs.length by omega] at hv
      rw [← hv]; simp [show j < zs.length by omega]
    rw [h2]
    exact cell_later hb0 h1
  have HX : Hid (X = zs.map (Value.int .u8)) := hX
  clear hX
  have HXl : Hid (X.length = len) := hXl
  clear hXl hc
  go_wp2_with (refine wpList_copy_splice rfl (.tmp 9) (.tmp 10) 22 22 rfl 5 Try.underlying22 (by rw [hi]; simp [hz1]) _ _ _ _ _ _ rfl rfl w.heap.size 0 (List.replicate len (Value.int .u8 0)) 5 hG X ?hn ?hpos ?hfit hXo w.heap.size w hb0 (Nat.le_refl _) ?_)
  case hn => rw [HXl.out]; simp
  case hpos => intro _; exact hXc
  case hfit => rw [HXl.out]; simp
  intro w2 HG2 hB2
  go_wp2
  go_ret
  refine ⟨rfl, ?_, hB2⟩
  have h3 := HG2.out
  unfold BRow
  rw [h3, HX.out]
  have h4 : (zs.map (Value.int .u8)).length = len := by simp; omega
  rw [splice, h4]
  simp

/-- A clone's value: nil, or the head of a row of its own. -/
def Cloned (w : World) (a : Option Addr) (g : Nat) (ys : List Int) : Prop := (a = none ∧ ys = []) ∨ (a = some ⟨g, 0, none⟩ ∧ BRow w g ys)

theorem Cloned.later {w w' : World} {a : Option Addr} {g : Nat} {ys : List Int} (h : Cloned w a g ys) (hb : Below w.heap.size w w') : Cloned w' a g ys := by
  rcases h with h | ⟨h1, h2⟩
  · exact .inl h
  · exact .inr ⟨h1, h2.later hb⟩

theorem Cloned.lt {w : World} {a : Option Addr} {g : Nat} {ys : List Int} (h : Cloned w a g ys) : ∀ x, a = some x → g < w.heap.size := by
  rintro x rfl
  rcases h with ⟨h, _⟩ | ⟨_, h2⟩
  · cases h
  · exact h2.lt

theorem Cloned.grown {w w' : World} {a : Option Addr} {g g' : Nat} {ys : List Int} (h : Cloned w a g ys) (hb : w.grownBy w' (some g')) (hg : ∀ x, a = some x → g ≠ g') : Cloned w' a g ys := by
  rcases h with h | ⟨h1, h2⟩
  · exact .inl h
  · exact .inr ⟨h1, h2.grown hb (hg _ h1)⟩

theorem clone_any (a : Option Addr) (len cap : Nat) (ys : List Int) (w : World) (h : Row8 w a len cap ys) (hm : len ≤ 1048576) :
    Calls Try.prog 6 #[.slice a len cap] w fun e w' => ∃ a', e = .returned (.slice a' len len) ∧ Cloned w' a' w.heap.size ys ∧ Below w.heap.size w w' := by
  obtain ⟨hlen, _, ⟨rfl, rfl, rfl⟩ | ⟨x, rfl, _, hc⟩⟩ := h
  · refine (clone_nil w).mono ?_
    rintro e w' ⟨rfl, rfl⟩
    exact ⟨none, rfl, .inl ⟨rfl, List.eq_nil_of_length_eq_zero hlen⟩, Below.refl _ _⟩
  · refine (clone_row x len cap ys w hm hlen hc).mono ?_
    rintro e w' ⟨rfl, hr, hb⟩
    exact ⟨_, rfl, .inr ⟨rfl, hr⟩, hb⟩
end Go.Proofs.Qxb6602453a

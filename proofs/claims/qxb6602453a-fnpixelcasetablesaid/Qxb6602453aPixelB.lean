/- The contracts of the pixel where it copies: RGB and indexed. -/
import Derived.Test.Qxb6602453aPixel
import Derived.Deep.QuietTactic
import Derived.BigQuiet
import Derived.BigRegion
namespace Go.Proofs.Qxb6602453a
set_option linter.unusedVariables false
open Go.RowKit

theorem splice_map (L cs : List Int) (off : Nat) : splice (L.map (Value.int .u8)) off (cs.map (Value.int .u8)) = (splice L off cs).map (Value.int .u8) := by
  simp [splice]

theorem splice_at (L cs : List Int) (j : Nat) : (splice L 0 cs)[j]?.getD 0 = if j < cs.length then cs[j]?.getD 0 else L[j]?.getD 0 := by
  unfold splice
  simp only [List.take_zero, List.nil_append, Nat.zero_add]
  by_cases hj : j < cs.length
  · rw [List.getElem?_append_left hj, if_pos hj]
  · rw [List.getElem?_append_right (by omega), if_neg hj, List.getElem?_drop]
    congr 2; omega

theorem oneCell_u8 (L : List Int) : ∀ v ∈ L.map (Value.int .u8), v.oneCell' = true := by
  intro v hv
  obtain ⟨n, _, rfl⟩ := List.mem_map.1 hv
  rfl

theorem size5 : (Try.prog.info? 5).map (·.size) = some 1 := by kernel_rfl

set_option maxHeartbeats 400000 in
theorem pixel_rgb (comps n hival : Int) (pa la : Option Addr) (pl pc g l ol ll : Nat) (zo zl : List Int) (w : World) (hol : zo.length = ol) (hll : zl.length = ll)
    (ho : BRow w g zo) (hl : Cloned w la l zl) (h3 : 3 ≤ ol) (hzo : ol ≤ 1048576) (hzl : ll ≤ 1048576) :
    Calls Try.prog 10 #[.agg #[.int .i64 1, .int .i64 comps, .int .i64 n, .int .i64 hival, .slice pa pl pc], .slice (some ⟨g, 0, none⟩) ol ol, .slice la ll ll] w
      fun e w' => e = .returned (.tuple #[]) ∧ Below g w w' ∧ BRow w' g (splice zo 0 (zl.take 3)) := by
  have hgg := ho.lt
  have hb0 : Below g w (w.alloc (.cells #[.int .i64 1, .int .i64 comps, .int .i64 n, .int .i64 hival, .slice pa pl pc] 30)) := (Below.refl _ _).alloc (Nat.le_of_lt hgg) _
  have hbw : Below w.heap.size w (w.alloc (.cells #[.int .i64 1, .int .i64 comps, .int .i64 n, .int .i64 hival, .slice pa pl pc] 30)) := (Below.refl _ _).alloc (Nat.le_refl _) _
  have hG : (w.alloc (.cells #[.int .i64 1, .int .i64 comps, .int .i64 n, .int .i64 hival, .slice pa pl pc] 30)).heap[g]? = some (.cells (zo.map (Value.int .u8)).toArray 5 (0, 0)) := ho.later hbw
  have hL := hl.later hbw
  have HO : Hid (zo.length = ol) := hol
  have HL : Hid (zl.length = ll) := hll
  clear hol hll
  have HP : Hid (0 < ((zl.take 3).map (Value.int .u8)).length → ∃ ad, la = some ad ∧ ∀ j v, ((zl.take 3).map (Value.int .u8))[j]? = some v → (w.alloc (.cells #[.int .i64 1, .int .i64 comps, .int .i64 n, .int .i64 hival, .slice pa pl pc] 30)).cell? (ad.add j) = some v) := by
    intro hp
    rcases hL with ⟨_, rfl⟩ | ⟨rfl, hr⟩
    · simp at hp
    · refine ⟨_, rfl, fun j v hv => ?_⟩
      have hj : j < zl.length := by have := (List.getElem?_eq_some_iff.1 hv).1; simp at this; omega
      have hj3 : j < 3 := by have := (List.getElem?_eq_some_iff.1 hv).1; simp at this; omega
      rw [Addr.add_lit, Nat.zero_add, hr.cell j hj]
      simp [hj, hj3] at hv
      simp [hj, hv]
  obtain ⟨X, hX⟩ : ∃ X, X = (zl.take 3).map (Value.int .u8) := ⟨_, rfl⟩
  rw [← hX] at HP
  have HX : Hid (X = (zl.take 3).map (Value.int .u8)) := hX
  have HXo : Hid (∀ v ∈ X, v.oneCell' = true) := hX ▸ oneCell_u8 _
  have HXl : Hid (X.length = min 3 ll) := by show X.length = _; rw [hX]; simp [HL.out]
  clear hX hL
  obtain ⟨Z, hZ⟩ : ∃ Z, Z = zo.map (Value.int .u8) := ⟨_, rfl⟩
  rw [← hZ] at hG
  have HZ : Hid (Z = zo.map (Value.int .u8)) := hZ
  clear hZ
  go_enter Try.func10, Try.ntmps10
  go_wp2_with (refine wpList_copy_splice rfl (.tmp 24) (.tmp 25) 22 22 rfl 5 Try.underlying22 size5 (some ⟨g, 0, none⟩) la 3 ol ll ll rfl rfl g 0 Z 5 hG X ?hn ?hpos ?hfit HXo.out g w hb0 (Nat.le_refl _) ?_)
  case hn => rw [HXl.out, Nat.min_comm]
  case hpos => intro h; first | exact HP.out h | exact ⟨rfl, HP.out h⟩
  case hfit => rw [HXl.out, HZ.out]; simp [HO.out]; omega
  intro w2 HG2 hB2
  go_wp2
  go_end0
  refine ⟨rfl, hB2, ?_⟩
  have := HG2.out
  rw [HX.out, HZ.out, splice_map] at this
  exact this

set_option maxHeartbeats 400000 in
/-- Indexed, where something is copied. -/
theorem pixel_idx (comps hival : Int) (n base p g l pl ol ll : Nat) (zp zo zl : List Int) (w : World) (hpl : zp.length = pl) (hol : zo.length = ol) (hll : zl.length = ll)
    (hp : BRow w p zp) (ho : BRow w g zo) (hl : BRow w l zl) (h0 : 0 ≤ zl[(0 : Nat)]?.getD 0) (h255 : zl[(0 : Nat)]?.getD 0 ≤ 255) (hbase : zl[(0 : Nat)]?.getD 0 * (n : Int) = (base : Int))
    (hn : 0 < n) (hno : n ≤ ol) (hbp : base < pl) (h1 : 0 < ll) (hzl : ll ≤ 65536) (hzp : pl ≤ 65536) :
    Calls Try.prog 10 #[.agg #[.int .i64 5, .int .i64 comps, .int .i64 n, .int .i64 hival, .slice (some ⟨p, 0, none⟩) pl pl], .slice (some ⟨g, 0, none⟩) ol ol, .slice (some ⟨l, 0, none⟩) ll ll] w
      fun e w' => e = .returned (.tuple #[]) ∧ Below g w w' ∧ BRow w' g (splice zo 0 ((zp.drop base).take n)) := by
  have hgg := ho.lt
  have hll' := hl.lt
  have hcl := hl.cell 0 (by omega)
  have hbw : Below w.heap.size w (w.alloc (.cells #[.int .i64 5, .int .i64 comps, .int .i64 n, .int .i64 hival, .slice (some ⟨p, 0, none⟩) pl pl] 30)).drew := ((Below.refl _ _).alloc (Nat.le_refl _) _).drew
  have hb0 : Below g w (w.alloc (.cells #[.int .i64 5, .int .i64 comps, .int .i64 n, .int .i64 hival, .slice (some ⟨p, 0, none⟩) pl pl] 30)).drew := hbw.mono (Nat.le_of_lt hgg)
  have hG : (w.alloc (.cells #[.int .i64 5, .int .i64 comps, .int .i64 n, .int .i64 hival, .slice (some ⟨p, 0, none⟩) pl pl] 30)).drew.heap[g]? = some (.cells (zo.map (Value.int .u8)).toArray 5 (0, 0)) := ho.later hbw
  have hL := hp.later hbw
  have HP : ∀ j v, (((zp.drop base).take n).map (Value.int .u8))[j]? = some v → (w.alloc (.cells #[.int .i64 5, .int .i64 comps, .int .i64 n, .int .i64 hival, .slice (some ⟨p, 0, none⟩) pl pl] 30)).drew.cell? ((⟨p, base, none⟩ : Addr).add j) = some v := by
    intro j v hv
    have hj := (List.getElem?_eq_some_iff.1 hv).1
    simp at hj
    have hjn : j < n := by omega
    have hjp : base + j < zp.length := by omega
    rw [Addr.add_lit, hL.cell (base + j) hjp]
    rw [List.getElem?_map, List.getElem?_take, if_pos hjn, List.getElem?_drop, List.getElem?_eq_getElem hjp] at hv
    simpa [hjp] using hv
  obtain ⟨W2, hcopy, hB2, hR2⟩ : ∃ W2, (Builtin.copy_ #[22, 22] 3 #[.slice (some ⟨g, 0, none⟩) n ol, .slice (some ⟨p, base, none⟩) (pl - base) (pl - base)]).run Try.prog (w.alloc (.cells #[.int .i64 5, .int .i64 comps, .int .i64 n, .int .i64 hival, .slice (some ⟨p, 0, none⟩) pl pl] 30)).drew = .ok (goInt (((zp.drop base).take n).map (Value.int .u8)).length) W2 ∧ Below g w W2 ∧ BRow W2 g (splice zo 0 ((zp.drop base).take n)) := by
    refine ⟨_, run_copy_row (P := Try.prog) _ 22 22 3 5 g 0 n ol ⟨p, base, none⟩ (pl - base) (pl - base) _ 5 _ Try.underlying22 size5 hG ?_ HP ?_ (oneCell_u8 _), below_setRow hb0 (Nat.le_refl _) _, ?_⟩
    · simp [hpl]; rw [Nat.min_comm]
    · simp; omega
    · unfold BRow
      rw [setRow_heap _ g _ _ 5 _ hG, ← splice_map]
      simp [splice]
  clear HP hL hG hb0 hbw hpl hol hll
  have hw1 : IntKind.i64.wrap (zl[(0 : Nat)]?.getD 0) = zl[(0 : Nat)]?.getD 0 := by rw [IntKind.wrap_i64]; omega
  have hwb : IntKind.i64.wrap (base : Int) = (base : Int) := by rw [IntKind.wrap_i64]; omega
  have hble : base ≤ pl := by omega
  have hbne : ¬ pl = base := by omega
  go_enter Try.func10, Try.ntmps10
  go_wp2
  go_region
  go_wp2
  go_end0
  exact ⟨rfl, hB2, hR2⟩

/-- A slice's head: nil and empty, or the head of a row. -/
def Head (a : Option Addr) (n : Nat) : Prop := (a = none ∧ n = 0) ∨ ∃ p, a = some ⟨p, 0, none⟩

set_option maxHeartbeats 800000 in
/-- Indexed at pixels of no byte: nothing is copied. -/
theorem pixel_idx0 (comps hival : Int) (l pl ol ll : Nat) (pa oa : Option Addr) (zl : List Int) (w : World) (hll : zl.length = ll)
    (hpa : Head pa pl) (hoa : Head oa ol) (hl : BRow w l zl) (h1 : 0 < ll) (hzo : ol ≤ 65536) (hzl : ll ≤ 65536) (hzp : pl ≤ 65536) :
    Calls Try.prog 10 #[.agg #[.int .i64 5, .int .i64 comps, .int .i64 0, .int .i64 hival, .slice pa pl pl], .slice oa ol ol, .slice (some ⟨l, 0, none⟩) ll ll] w
      fun e w' => e = .returned (.tuple #[]) ∧ Below w.heap.size w w' := by
  have hll' := hl.lt
  have hcl := hl.cell 0 (by omega)
  have hcopy : ∀ (d a : Option Addr) (dCap sLen sCap : Nat) (W : World), (Builtin.copy_ #[22, 22] 3 #[.slice d 0 dCap, .slice a sLen sCap]).run Try.prog W = .ok (goInt 0) W :=
    fun d a dCap sLen sCap W => run_copy_none (P := Try.prog) W 22 22 3 5 d a 0 dCap sLen sCap Try.underlying22 size5 (Nat.min_zero _)
  rcases hpa with ⟨rfl, rfl⟩ | ⟨p, rfl⟩ <;> rcases hoa with ⟨rfl, rfl⟩ | ⟨o, rfl⟩
  all_goals
    go_enter Try.func10, Try.ntmps10
    go_wp2
    go_region
    go_wp2
    go_end0
    exact ⟨rfl, ((Below.refl _ _).alloc (Nat.le_refl _) _).drew⟩

set_option maxHeartbeats 800000 in
/-- Indexed behind the palette's end: nothing is copied. -/
theorem pixel_idx1 (comps hival L0 : Int) (n l g pl ol ll : Nat) (pa : Option Addr) (w : World)
    (hpa : Head pa pl) (hll' : l < w.heap.size) (hcl : w.cell? ⟨l, 0, none⟩ = some (.int .u8 L0)) (h0 : 0 ≤ L0) (h255 : L0 ≤ 255) (hbase : L0 * (n : Int) = (pl : Int)) (hno : n ≤ ol) (h1 : 0 < ll) (hzo : ol ≤ 65536) (hzl : ll ≤ 65536) (hzp : pl ≤ 65536) :
    Calls Try.prog 10 #[.agg #[.int .i64 5, .int .i64 comps, .int .i64 n, .int .i64 hival, .slice pa pl pl], .slice (some ⟨g, 0, none⟩) ol ol, .slice (some ⟨l, 0, none⟩) ll ll] w
      fun e w' => e = .returned (.tuple #[]) ∧ Below w.heap.size w w' := by
  have hcopy : ∀ (d a : Option Addr) (dLen dCap sCap : Nat) (W : World), (Builtin.copy_ #[22, 22] 3 #[.slice d dLen dCap, .slice a 0 sCap]).run Try.prog W = .ok (goInt 0) W :=
    fun d a dLen dCap sCap W => run_copy_none (P := Try.prog) W 22 22 3 5 d a dLen dCap 0 sCap Try.underlying22 size5 (Nat.zero_min _)
  have hw1 : IntKind.i64.wrap (L0) = L0 := by rw [IntKind.wrap_i64]; omega
  have hwb : IntKind.i64.wrap (pl : Int) = (pl : Int) := by rw [IntKind.wrap_i64]; omega
  rcases hpa with ⟨rfl, rfl⟩ | ⟨p, rfl⟩
  · clear hwb
    have hwb : IntKind.i64.wrap 0 = 0 := by rw [IntKind.wrap_i64]; omega
    have hbase' : L0 * (n : Int) = 0 := by simpa using hbase
    clear hbase
    go_enter Try.func10, Try.ntmps10
    go_wp2
    go_region
    go_wp2
    go_end0
    exact ⟨rfl, ((Below.refl _ _).alloc (Nat.le_refl _) _).drew⟩
  · go_enter Try.func10, Try.ntmps10
    go_wp2
    go_region
    go_wp2
    go_end0
    exact ⟨rfl, ((Below.refl _ _).alloc (Nat.le_refl _) _).drew⟩
end Go.Proofs.Qxb6602453a

/- FnStepsCountsWholeVarints: the row's proof, after the frame that the kit's tool writes for laws over slices. -/
import Derived.Test.Qxb6602484aRows
import Derived.Test.Qxb6602484aCounts
import Derived.WalkKit
import Derived.ProofKit
import Derived.OpenShut
import Derived.ShutString
import Derived.ChangeOld
import Derived.Below
import Derived.Deep.Matrix
namespace Go.Proofs.Qxb6602484a.fnStepsCountsWholeVarints
open Go.ChangeShapes Go.WideShapes Go.ChangeAt Go.RowKit
open Go.ChangeMaps (open_string shut_string)
set_option linter.unusedVariables false

theorem own : ownKnob Try.prog.godebug = none := by kernel_rfl
theorem laidOut : laidOutB Try.prog = true := by kernel_rfl

theorem row8_take {w : World} {a : Option Addr} {len cap : Nat} {zs : List Int} (hl : len ≤ cap) (hz : zs.length = cap) (hwf : ∀ n ∈ zs, (Lit.int .u8 n).wf = true) (h0 : a = none → cap = 0)
    (hc : ∀ x, a = some x → ∀ i, i < cap → w.cell? (x.add i) = some (.int .u8 (zs.getD i 0))) : Row8 w a len cap (zs.take len) := by
  refine ⟨by simp; omega, ?_, ?_⟩
  · intro i
    rcases Nat.lt_or_ge i (zs.take len).length with h | h
    · have hm : (zs.take len)[i] ∈ zs := List.mem_of_mem_take (List.getElem_mem h)
      have := bounds_u8 (hwf _ hm)
      rw [List.getElem?_eq_getElem h]
      simpa using this
    · rw [List.getElem?_eq_none h]; simp
  · cases a with
    | none => have := h0 rfl; exact .inl ⟨rfl, by omega, this⟩
    | some x =>
      refine .inr ⟨x, rfl, hl, fun i hi => ?_⟩
      rw [hc x rfl i (by omega)]
      simp [hi]

theorem tab_none (w : World) : Tab w none 0 (fun _ => none) (fun _ => 0) (fun _ => 0) (fun _ => []) := ⟨fun h => by omega, fun i hi => by omega⟩

theorem cells_lit {w : World} {x : Addr} {n : Nat} (hn : 0 < n) {V : Nat → Value} (h : ∀ i, i < n → w.cell? (x.add i) = some (V i)) : ∃ b off, x = ⟨b, off, none⟩ ∧ ∀ i, i < n → w.cell? ⟨b, off + i, none⟩ = some (V i) := by
  obtain ⟨b, off, spot⟩ := x
  have hspot : spot = none := by simpa [Addr.add] using World.cell?_spot (h 0 hn)
  subst hspot
  exact ⟨b, off, rfl, fun i hi => by rw [← Addr.add_lit]; exact h i hi⟩

theorem tab_of {w : World} {base : Nat} {x : Addr} {len cap : Nat} {A : Nat → Option Addr} {L C : Nat → Nat} {Z : Nat → List Int} (hl : len ≤ cap)
    (h : ∀ r, r < cap → w.cell? (x.add r) = some (.slice (A r) (L r) (C r)) ∧ L r ≤ C r ∧ C r ≤ maxLen ∧ (Z r).length = C r ∧ (∀ n ∈ Z r, (Lit.int .u8 n).wf = true) ∧ (A r = none → C r = 0) ∧
        ∀ a', A r = some a' → base ≤ a'.block ∧ ∀ c, c < C r → w.cell? (a'.add c) = some (.int .u8 ((Z r).getD c 0))) :
    Tab w (some x) len A L C (fun i => (Z i).take (L i)) := by
  refine ⟨fun hp => ?_, fun i hi => ?_⟩
  · obtain ⟨b, off, rfl, hc⟩ := cells_lit (V := fun i => .slice (A i) (L i) (C i)) hp (fun i hi => (h i (by omega)).1)
    exact ⟨b, off, rfl, hc⟩
  · obtain ⟨_, h1, _, h3, h4, h5, h6⟩ := h i (by omega)
    exact row8_take h1 h3 h4 h5 (fun x hx => (h6 x hx).2)

theorem row32_of {w : World} {x : Addr} {len : Nat} {zs : List Int} (hl : len ≤ zs.length) (h : ∀ i, i < zs.length → w.cell? (x.add i) = some (.int .i32 (zs.getD i 0))) : Row32 w (some x) len (fun i => zs.getD i 0) := by
  intro hp
  obtain ⟨b, off, rfl, hc⟩ := cells_lit (V := fun i => .int .i32 (zs.getD i 0)) hp (fun i hi => h i (by omega))
  exact ⟨b, off, rfl, hc⟩

set_option maxRecDepth 100000 in
theorem lifted (os : Os) (started : os.Started) (H : Type) (enc : TypeId × Value → H) :
    ReturnsInHanded {} Try.checked os 3 .any (Rows.fnStepsCountsWholeVarintsSpec.pre6 enc Try.prog Try.f3 Rows.fnStepsCountsWholeVarintsRow.domain false) (Rows.fnStepsCountsWholeVarintsSpec.post enc Try.prog Try.f3 false true false false) := by
  refine returnsInHanded_of_change (C := Try.checked) own started (by kernel_rfl) Try.func3
    (ChangeSpec.witness6 (enc := enc) (C := Try.checked) false ⟨#[], #[.bool false, .slice none 0 0, .slice none 0 0, .slice none 0 0, .int .i64 0, .bool false, .slice none 0 0], []⟩ 8 (by kernel_rfl) (by kernel_rfl) (by kernel_rfl) (by kernel_rfl)) ?_
  intro W base args ds gs before hval0 hW hcnd _
  have hval : ∀ (j : Nat) t v, Try.f3.params[j]? = some t → args[j]? = some v → Value.okWide Try.prog W .any base t v := hval0
  have hW' := hW
  obtain ⟨p, q, hA0, hV, rfl, hfz, hnd⟩ := hW
  have hA : DataW.TrodAll enc Try.prog W 0 (fun _ => true) true Try.f3.params.toList args.toList ds p := hA0
  rw [Try.params3] at hA hval
  obtain ⟨v0, vs0, d0, ds0, p0, q0, hargs, rfl, rfl, h0, r0⟩ := trodAll_cons hA
  obtain ⟨v1, vs1, d1, ds1, p1, q1, rfl, rfl, rfl, h1, r1⟩ := trodAll_cons r0
  obtain ⟨v2, vs2, d2, ds2, p2, q2, rfl, rfl, rfl, h2, r2⟩ := trodAll_cons r1
  obtain ⟨v3, vs3, d3, ds3, p3, q3, rfl, rfl, rfl, h3, r3⟩ := trodAll_cons r2
  obtain ⟨v4, vs4, d4, ds4, p4, q4, rfl, rfl, rfl, h4, r4⟩ := trodAll_cons r3
  obtain ⟨v5, vs5, d5, ds5, p5, q5, rfl, rfl, rfl, h5, r5⟩ := trodAll_cons r4
  obtain ⟨v6, vs6, d6, ds6, p6, q6, rfl, rfl, rfl, h6, r6⟩ := trodAll_cons r5
  obtain ⟨rfl, rfl, rfl⟩ := trodAll_nil r6
  obtain rfl : args = #[v0, v1, v2, v3, v4, v5, v6] := by cases args; simp_all
  obtain ⟨rfl, rfl⟩ := trodVars_none hV
  obtain ⟨a0, rfl, rfl, rfl⟩ := open_bool Try.underlying4 (hval 0 4 v0 rfl rfl) h0
  obtain ⟨a1, len1, cap1, rfl⟩ := okWide_slice Try.underlying22 (hval 1 22 v1 rfl rfl)
  have k1 := h1
  have lt1 : ∀ x ∈ p1, x.block < W.heap.size := by obtain ⟨m, hm⟩ := k1; exact DataW.trod_lt m _ _ _ hm
  obtain ⟨Z, n1, w1⟩ : ∃ Z, (a1 = none → len1 = 0 ∧ cap1 = 0) ∧ Row32 W a1 len1 Z := by
    obtain ⟨fuel, hf⟩ := h1
    rcases open_ints Try.underlying22 Try.underlying21 (by kernel_rfl) hf with ⟨hcs, _⟩ | ⟨x, l, c, zs, hcs, _, hl, hm, hz, _, hcell, hwz⟩
    · simp [Value.cells] at hcs
      obtain ⟨rfl, rfl, rfl⟩ := hcs
      exact ⟨fun _ => 0, fun _ => ⟨rfl, rfl⟩, fun h => by omega⟩
    · simp [Value.cells] at hcs
      obtain ⟨rfl, rfl, rfl⟩ := hcs
      have hz' : zs.length = cap1 := by simpa using hz
      exact ⟨_, (fun h => by cases h), row32_of (by omega) hcell⟩
  obtain ⟨a2, len2, cap2, rfl⟩ := okWide_slice Try.underlying23 (hval 2 23 v2 rfl rfl)
  have k2 := h2
  have lt2 : ∀ x ∈ p2, x.block < W.heap.size := by obtain ⟨m, hm⟩ := k2; exact DataW.trod_lt m _ _ _ hm
  obtain ⟨A2, L2, C2, Y2, n2, w2⟩ : ∃ A L C Y, (a2 = none → len2 = 0 ∧ cap2 = 0) ∧ Tab W a2 len2 A L C Y := by
    obtain ⟨fuel, hf⟩ := h2
    rcases Deep.open_int_rows Try.underlying23 Try.underlying24 Try.underlying5 (by kernel_rfl) (by kernel_rfl) hf with ⟨hcs, _⟩ | ⟨x, l, c, A, L, C, Zs, hcs, _, hl, hm, _, hr⟩
    · simp [Value.cells] at hcs
      obtain ⟨rfl, rfl, rfl⟩ := hcs
      exact ⟨_, _, _, _, fun _ => ⟨rfl, rfl⟩, tab_none W⟩
    · simp [Value.cells] at hcs
      obtain ⟨rfl, rfl, rfl⟩ := hcs
      exact ⟨A, L, C, _, (fun h => by cases h), tab_of hl hr⟩
  obtain ⟨a3, len3, cap3, rfl⟩ := okWide_slice Try.underlying23 (hval 3 23 v3 rfl rfl)
  have k3 := h3
  have lt3 : ∀ x ∈ p3, x.block < W.heap.size := by obtain ⟨m, hm⟩ := k3; exact DataW.trod_lt m _ _ _ hm
  obtain ⟨A3, L3, C3, Y3, n3, w3⟩ : ∃ A L C Y, (a3 = none → len3 = 0 ∧ cap3 = 0) ∧ Tab W a3 len3 A L C Y := by
    obtain ⟨fuel, hf⟩ := h3
    rcases Deep.open_int_rows Try.underlying23 Try.underlying24 Try.underlying5 (by kernel_rfl) (by kernel_rfl) hf with ⟨hcs, _⟩ | ⟨x, l, c, A, L, C, Zs, hcs, _, hl, hm, _, hr⟩
    · simp [Value.cells] at hcs
      obtain ⟨rfl, rfl, rfl⟩ := hcs
      exact ⟨_, _, _, _, fun _ => ⟨rfl, rfl⟩, tab_none W⟩
    · simp [Value.cells] at hcs
      obtain ⟨rfl, rfl, rfl⟩ := hcs
      exact ⟨A, L, C, _, (fun h => by cases h), tab_of hl hr⟩
  obtain ⟨a4, rfl, rfl, rfl, w4⟩ := open_int Try.underlying3 (hval 4 3 v4 rfl rfl) h4
  obtain ⟨a5, rfl, rfl, rfl⟩ := open_bool Try.underlying4 (hval 5 4 v5 rfl rfl) h5
  obtain ⟨a6, len6, cap6, rfl⟩ := okWide_slice Try.underlying24 (hval 6 24 v6 rfl rfl)
  have k6 := h6
  have lt6 : ∀ x ∈ p6, x.block < W.heap.size := by obtain ⟨m, hm⟩ := k6; exact DataW.trod_lt m _ _ _ hm
  obtain ⟨y6, w6⟩ : ∃ ys, Row8 W a6 len6 cap6 ys := by
    obtain ⟨fuel, hf⟩ := h6
    rcases open_ints Try.underlying24 Try.underlying5 (by kernel_rfl) hf with ⟨hcs, _⟩ | ⟨x, l, c, zs, hcs, _, hl, hm, hz, _, hcell, hwz⟩
    · simp [Value.cells] at hcs
      obtain ⟨rfl, rfl, rfl⟩ := hcs
      exact row8_of (.inl ⟨rfl, rfl, rfl, rfl⟩)
    · simp [Value.cells] at hcs
      obtain ⟨rfl, rfl, rfl⟩ := hcs
      exact row8_of (.inr ⟨_, rfl, hl, hm, by simpa using hz, hcell, hwz⟩)
  clear hA0 hval0
  refine (counts_any a0 a5 a4 a1 a2 a3 a6 len1 cap1 len2 cap2 len3 cap3 len6 cap6 Z A2 A3 L2 C2 L3 C3 Y2 Y3 y6 W n1 n2 n3 w1 w2 w3 w6).mono fun e W' ⟨he, bel⟩ => ?_
  subst he
  exact ⟨_, rfl, _, _, _, [], _, [], hW', trodAll_mk1 (shut_bool Try.underlying4 _), (trodAll_cons_mk (shut_bool Try.underlying4 _) (trodAll_cons_mk (Below.trod laidOut (by kernel_rfl) (of_decide_eq_true (by kernel_rfl)) k1 bel lt1) (trodAll_cons_mk (Below.trod laidOut (by kernel_rfl) (of_decide_eq_true (by kernel_rfl)) k2 bel lt2) (trodAll_cons_mk (Below.trod laidOut (by kernel_rfl) (of_decide_eq_true (by kernel_rfl)) k3 bel lt3) (trodAll_cons_mk (shut_int Try.underlying3 w4) (trodAll_cons_mk (shut_bool Try.underlying4 _) (trodAll_cons_mk (Below.trod laidOut (by kernel_rfl) (of_decide_eq_true (by kernel_rfl)) k6 bel lt6) trodAll_mk0))))))), rfl, bel.frame _, fun h => by cases h⟩

theorem over : Rows.fnStepsCountsWholeVarintsRow.holds Try.pinned (OpenSpec.ofChange Rows.fnStepsCountsWholeVarintsSpec) :=
  OpenClaim.holds_of_wide 3 Try.f3 rfl rfl rfl rfl rfl rfl rfl ⟨rfl, rfl, rfl, rfl, rfl⟩ rfl rfl rfl rfl rfl (by kernel_rfl) Try.func3 (by kernel_rfl)
    (of_decide_eq_true (by kernel_rfl)) (by unfold Func.isWrapper; first | (rw [if_pos (by decide +kernel)]; kernel_rfl) | (rw [if_neg (by decide +kernel)]; exact ⟨rfl, rfl⟩))
    (fun os started H enc _ => lifted os started H enc)

/-- ████ THE STATEMENT ████ -/
theorem proved : Rows.FnStepsCountsWholeVarintsSaid := over
#print axioms proved
end Go.Proofs.Qxb6602484a.fnStepsCountsWholeVarints

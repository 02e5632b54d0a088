/- FnOnBoundsOwnBoundsAccepted: the row's proof, after the frame that the kit's tool writes for laws over slices. -/
import Derived.Test.Qxb6000709aRows
import Derived.Test.Qxb6000709aHead
import Derived.Test.Qxb6000709aOwnWalk
import Derived.WalkKit
import Derived.ProofKit
import Derived.OpenShut
import Derived.ShutString
import Derived.ChangeOld
import Derived.Below
import Derived.Deep.Grids
namespace Go.Proofs.Qxb6000709a.fnOnBoundsOwnBoundsAccepted
open Go.ChangeShapes Go.WideShapes Go.ChangeAt Go.RowKit
set_option linter.unusedVariables false

theorem own : ownKnob Try.prog.godebug = none := by kernel_rfl
theorem laidOut : laidOutB Try.prog = true := by kernel_rfl

theorem rowv_of {w : World} {x : Addr} {len cap : Nat} {V : Nat → Value} (hl : len ≤ cap) (h : ∀ i, i < cap → w.cell? (x.add i) = some (V i)) : RowV w (some x) len V := by
  intro hp
  obtain ⟨b, off, spot⟩ := x
  have hspot : spot = none := by simpa [Addr.add] using World.cell?_spot (h 0 (by omega))
  subst hspot
  exact ⟨b, off, rfl, fun i hi => by rw [← Addr.add_lit]; exact h i (by omega)⟩

theorem walk (a0 a1 a2 : Option Addr) (lh ch ln cn lu cu : Nat) (H : Nat → Bool) (N U : Nat → Int) (w : World)
    (n0 : a0 = none → lh = 0 ∧ ch = 0) (n1 : a1 = none → ln = 0 ∧ cn = 0) (n2 : a2 = none → lu = 0 ∧ cu = 0)
    (hH : RowV w a0 lh (fun i => .bool (H i))) (hN : RowV w a1 ln (fun i => .int .i64 (N i))) (hU : RowV w a2 lu (fun i => .int .i64 (U i))) :
    Calls Try.prog 9 #[.slice a0 lh ch, .slice a1 ln cn, .slice a2 lu cu] w fun e w' => e = .returned (.bool true) ∧ Below w.heap.size w w' := by
  by_cases h : 1048576 < lh + ln + lu ∨ 4096 < lh ∨ 4096 < ln ∨ 4096 < lu ∨ ln ≠ lh ∨ lu ≠ lh
  · refine (own_early a0 a1 a2 lh ch ln cn lu cu w h).mono ?_
    rintro e w' ⟨rfl, rfl⟩
    exact ⟨rfl, Below.refl _ _⟩
  · obtain rfl : lh = ln := by omega
    obtain rfl : lh = lu := by omega
    exact own_any a0 a1 a2 lh ch cn cu H N U w (by omega) n0 n1 n2 hH hN hU

set_option maxRecDepth 100000 in
theorem lifted (os : Os) (started : os.Started) (H : Type) (enc : TypeId × Value → H) :
    ReturnsInHanded {} Try.checked os 9 .any (Rows.fnOnBoundsOwnBoundsAcceptedSpec.pre6 enc Try.prog Try.f9 Rows.fnOnBoundsOwnBoundsAcceptedRow.domain false) (Rows.fnOnBoundsOwnBoundsAcceptedSpec.post enc Try.prog Try.f9 false true false false) := by
  refine returnsInHanded_of_change (C := Try.checked) own started (by kernel_rfl) Try.func9
    (ChangeSpec.witness6 (enc := enc) (C := Try.checked) false ⟨#[], #[.slice none 0 0, .slice none 0 0, .slice none 0 0], []⟩ 8 (by kernel_rfl) (by kernel_rfl) (by kernel_rfl) (by kernel_rfl)) ?_
  intro W base args ds gs before hval0 hW hcnd _
  have hval : ∀ (j : Nat) t v, Try.f9.params[j]? = some t → args[j]? = some v → Value.okWide Try.prog W .any base t v := hval0
  have hW' := hW
  obtain ⟨p, q, hA0, hV, rfl, hfz, hnd⟩ := hW
  have hA : DataW.TrodAll enc Try.prog W 0 (fun _ => true) true Try.f9.params.toList args.toList ds p := hA0
  rw [Try.params9] at hA hval
  obtain ⟨v0, vs0, d0, ds0, p0, q0, hargs, rfl, rfl, h0, r0⟩ := trodAll_cons hA
  obtain ⟨v1, vs1, d1, ds1, p1, q1, rfl, rfl, rfl, h1, r1⟩ := trodAll_cons r0
  obtain ⟨v2, vs2, d2, ds2, p2, q2, rfl, rfl, rfl, h2, r2⟩ := trodAll_cons r1
  obtain ⟨rfl, rfl, rfl⟩ := trodAll_nil r2
  obtain rfl : args = #[v0, v1, v2] := by cases args; simp_all
  obtain ⟨rfl, rfl⟩ := trodVars_none hV
  obtain ⟨a0, len0, cap0, rfl⟩ := okWide_slice Try.underlying31 (hval 0 31 v0 rfl rfl)
  have k0 := h0
  have lt0 : ∀ x ∈ p0, x.block < W.heap.size := by obtain ⟨m, hm⟩ := k0; exact DataW.trod_lt m _ _ _ hm
  obtain ⟨B, n0, w0⟩ : ∃ B : Nat → Bool, (a0 = none → len0 = 0 ∧ cap0 = 0) ∧ RowV W a0 len0 (fun i => .bool (B i)) := by
    obtain ⟨fuel, hf⟩ := h0
    rcases Deep.open_bools Try.underlying31 Try.underlying4 (by kernel_rfl) hf with ⟨hcs, _⟩ | ⟨x, l, c, B, hcs, _, hl, hm, _, hcell⟩
    · simp [Value.cells] at hcs
      obtain ⟨rfl, rfl, rfl⟩ := hcs
      exact ⟨fun _ => false, fun _ => ⟨rfl, rfl⟩, fun h => by omega⟩
    · simp [Value.cells] at hcs
      obtain ⟨rfl, rfl, rfl⟩ := hcs
      exact ⟨B, (fun h => by cases h), rowv_of hl hcell⟩
  obtain ⟨a1, len1, cap1, rfl⟩ := okWide_slice Try.underlying32 (hval 1 32 v1 rfl rfl)
  have k1 := h1
  have lt1 : ∀ x ∈ p1, x.block < W.heap.size := by obtain ⟨m, hm⟩ := k1; exact DataW.trod_lt m _ _ _ hm
  obtain ⟨N, n1, w1⟩ : ∃ N : Nat → Int, (a1 = none → len1 = 0 ∧ cap1 = 0) ∧ RowV W a1 len1 (fun i => .int .i64 (N i)) := by
    obtain ⟨fuel, hf⟩ := h1
    rcases open_ints Try.underlying32 Try.underlying3 (by kernel_rfl) hf with ⟨hcs, _⟩ | ⟨x, l, c, zs, hcs, _, hl, hm, hz, _, hcell, hwz⟩
    · simp [Value.cells] at hcs
      obtain ⟨rfl, rfl, rfl⟩ := hcs
      exact ⟨fun _ => 0, fun _ => ⟨rfl, rfl⟩, fun h => by omega⟩
    · simp [Value.cells] at hcs
      obtain ⟨rfl, rfl, rfl⟩ := hcs
      have hz' : zs.length = cap1 := by simpa using hz
      exact ⟨fun i => zs.getD i 0, (fun h => by cases h), rowv_of hl (fun i hi => hcell i (by omega))⟩
  obtain ⟨a2, len2, cap2, rfl⟩ := okWide_slice Try.underlying32 (hval 2 32 v2 rfl rfl)
  have k2 := h2
  have lt2 : ∀ x ∈ p2, x.block < W.heap.size := by obtain ⟨m, hm⟩ := k2; exact DataW.trod_lt m _ _ _ hm
  obtain ⟨U, n2, w2⟩ : ∃ N : Nat → Int, (a2 = none → len2 = 0 ∧ cap2 = 0) ∧ RowV W a2 len2 (fun i => .int .i64 (N i)) := by
    obtain ⟨fuel, hf⟩ := h2
    rcases open_ints Try.underlying32 Try.underlying3 (by kernel_rfl) hf with ⟨hcs, _⟩ | ⟨x, l, c, zs, hcs, _, hl, hm, hz, _, hcell, hwz⟩
    · simp [Value.cells] at hcs
      obtain ⟨rfl, rfl, rfl⟩ := hcs
      exact ⟨fun _ => 0, fun _ => ⟨rfl, rfl⟩, fun h => by omega⟩
    · simp [Value.cells] at hcs
      obtain ⟨rfl, rfl, rfl⟩ := hcs
      have hz' : zs.length = cap2 := by simpa using hz
      exact ⟨fun i => zs.getD i 0, (fun h => by cases h), rowv_of hl (fun i hi => hcell i (by omega))⟩
  clear hA0 hval0
  refine (walk a0 a1 a2 len0 cap0 len1 cap1 len2 cap2 B N U W n0 n1 n2 w0 w1 w2).mono fun e W' ⟨he, bel⟩ => ?_
  subst he
  exact ⟨_, rfl, _, _, _, [], _, [], hW', trodAll_mk1 (shut_bool Try.underlying4 _), (trodAll_cons_mk (Below.trod laidOut (by kernel_rfl) (of_decide_eq_true (by kernel_rfl)) k0 bel lt0) (trodAll_cons_mk (Below.trod laidOut (by kernel_rfl) (of_decide_eq_true (by kernel_rfl)) k1 bel lt1) (trodAll_cons_mk (Below.trod laidOut (by kernel_rfl) (of_decide_eq_true (by kernel_rfl)) k2 bel lt2) trodAll_mk0))), rfl, bel.frame _, fun h => by cases h⟩

theorem closed : joinedFacts Try.pinned.checked.prog 9 Try.f9 Rows.fnOnBoundsOwnBoundsAcceptedSpec Rows.fnOnBoundsOwnBoundsAcceptedRow = true := by
  unfold joinedFacts
  rw [head_enters, head_lifts, head_make]
  kernel_rfl

theorem over : Rows.fnOnBoundsOwnBoundsAcceptedRow.holds Try.pinned (OpenSpec.ofChange Rows.fnOnBoundsOwnBoundsAcceptedSpec) :=
  OpenClaim.holds_of_wide 9 Try.f9 rfl rfl rfl rfl rfl rfl rfl ⟨rfl, rfl, rfl, rfl, rfl⟩ rfl rfl rfl rfl rfl (by kernel_rfl) Try.func9 closed
    (of_decide_eq_true (by kernel_rfl)) (by unfold Func.isWrapper; first | (rw [if_pos (by decide +kernel)]; kernel_rfl) | (rw [if_neg (by decide +kernel)]; exact ⟨rfl, rfl⟩))
    (fun os started H enc _ => lifted os started H enc)

/-- ████ THE STATEMENT ████ -/
theorem proved : Rows.FnOnBoundsOwnBoundsAcceptedSaid := over
#print axioms proved
end Go.Proofs.Qxb6000709a.fnOnBoundsOwnBoundsAccepted

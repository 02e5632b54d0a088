/- FnStepsCountsWholeVarints: the walk. -/
import Derived.Test.Qxb6602484aClones
import Derived.Test.Qxb6602484aModel
import Derived.Deep.QuietTactic
import Derived.BigQuiet
import Derived.BigRegion
namespace Go.Proofs.Qxb6602484a
set_option linter.unusedVariables false
open Go.RowKit

theorem made_val {t : TypeId} {p : Value → Prop} {w : World} {a : Option Addr} {n : Nat} {e : Ending} {w' : World} (h : Made t p w a n e w') :
    ∃ q, e = .returned (.slice q n n) ∧ Below w.heap.size w w' ∧ (q = none ↔ a = none) ∧ (a ≠ none → q = some ⟨w.heap.size, 0, none⟩ ∧ ∃ vs, VRow t w' w.heap.size vs ∧ Each p n vs) := by
  obtain ⟨hb, ⟨rfl, rfl, rfl⟩ | ⟨hn, rfl, vs, h1, h2⟩⟩ := h
  · exact ⟨none, rfl, hb, by simp, fun h => absurd rfl h⟩
  · exact ⟨_, rfl, hb, by simp [hn], fun _ => ⟨rfl, vs, h1, h2⟩⟩

theorem Tab.kept {w w' : World} {a : Option Addr} {len : Nat} {A : Nat → Option Addr} {L C : Nat → Nat} {Y : Nat → List Int} (h : Tab w a len A L C Y) (hb : Below w.heap.size w w') : Tab w' a len A L C Y :=
  ⟨fun hp => let ⟨b, off, e, hc⟩ := h.1 hp; ⟨b, off, e, fun i hi => cell_later hb (hc i hi)⟩, fun i hi => (h.2 i hi).kept hb⟩

theorem Row32.kept {w w' : World} {a : Option Addr} {len : Nat} {Z : Nat → Int} (h : Row32 w a len Z) (hb : Below w.heap.size w w') : Row32 w' a len Z :=
  fun hp => let ⟨b, off, e, hc⟩ := h hp; ⟨b, off, e, fun i hi => cell_later hb (hc i hi)⟩

theorem each_any (vs : List Value) (n : Nat) (h : vs.length = n) (i : Nat) (hi : i < n) : ∃ v, vs[i]? = some v := ⟨vs[i], by rw [List.getElem?_eq_getElem]⟩

theorem VRow.drew {t : TypeId} {w : World} {g : Nat} {vs : List Value} (h : VRow t w g vs) : VRow t w.drew g vs := h

/-- The end: true, and nothing old turned. -/
def Fine (w : World) (e : Ending) (w' : World) : Prop := e = .returned (.bool true) ∧ Below w.heap.size w w'
theorem fine_mk {w w' : World} (h : Below w.heap.size w w') : Fine w (.returned (.bool true)) w' := ⟨rfl, h⟩

set_option maxHeartbeats 2000000 in
theorem counts_any (c ex : Bool) (ms : Int) (ah ap aq ab : Option Addr) (lh ch lp cp ls cs lb cb : Nat) (Z : Nat → Int) (A A' : Nat → Option Addr) (L C L' C' : Nat → Nat) (Y Y' : Nat → List Int) (yb : List Int) (w : World)
    (nh : ah = none → lh = 0 ∧ ch = 0) (np : ap = none → lp = 0 ∧ cp = 0) (nq : aq = none → ls = 0 ∧ cs = 0)
    (hh : Row32 w ah lh Z) (hp : Tab w ap lp A L C Y) (hs : Tab w aq ls A' L' C' Y') (hb : Row8 w ab lb cb yb) :
    Calls Try.prog 3 #[.bool c, .slice ah lh ch, .slice ap lp cp, .slice aq ls cs, .int .i64 ms, .bool ex, .slice ab lb cb] w fun e w' => Fine w e w' := by
  have HH : Hid (Row32 w ah lh Z) := hh
  have HP : Hid (Tab w ap lp A L C Y) := hp
  have HS : Hid (Tab w aq ls A' L' C' Y') := hs
  have HB : Hid (Row8 w ab lb cb yb) := hb
  have NH : Hid (ah = none → lh = 0 ∧ ch = 0) := nh
  have NP : Hid (ap = none → lp = 0 ∧ cp = 0) := np
  have NQ : Hid (aq = none → ls = 0 ∧ cs = 0) := nq
  clear hh hp hs hb nh np nq
  have hneq := fun (w : World) (a : Option Addr) (n c n' c' : Nat) => run_neq_slice_nil_any (P := Try.prog) w 22 21 a n c n' c' Try.underlying22
  go_enter Try.func3, Try.ntmps3
  go_wp2_with fail
  refine (bytes5 c ex ms ah ap aq ab lh ch lp cp ls cs lb cb A A' L C L' C' Y Y' w HP.out HS.out).mono ?_
  rintro e w' ⟨b, rfl, hw, hT⟩
  obtain rfl := hw.symm
  clear hw
  cases b with
  | false =>
    clear hT
    go_wp2
    go_ret
    exact fine_mk (Below.refl _ _)
  | true =>
    obtain ⟨hL, hL', hlb⟩ := hT rfl
    have HL : Hid (∀ i, i < lp → L i ≤ 1048576) := hL
    have HL' : Hid (∀ i, i < ls → L' i ≤ 1048576) := hL'
    clear hT hL hL'
    by_cases d1 : 65536 < lh
    · go_wp2
      go_ret
      exact fine_mk (Below.refl _ _)
    by_cases d2 : 65536 < lp
    · go_wp2
      go_ret
      exact fine_mk (Below.refl _ _)
    by_cases d3 : 65536 < ls
    · go_wp2
      go_ret
      exact fine_mk (Below.refl _ _)
    go_wp2_with fail
    refine (input6 ah ap aq ab lh ch lp cp ls cs lb cb A A' L C L' C' Y Y' w HP.out HS.out (by omega) (by omega) (by omega) hlb HL.out HL'.out).mono ?_
    rintro e w' ⟨t, rfl, hw⟩
    obtain rfl := hw.symm
    clear hw
    by_cases e1 : 1048576 < t
    · go_wp2
      go_ret
      exact fine_mk (Below.refl _ _)
    by_cases e2 : ((lp : Int) != (lh : Int)) = true
    · go_wp2
      go_ret
      exact fine_mk (Below.refl _ _)
    obtain rfl : lh = lp := by simp at e2; omega
    clear e2
    by_cases e3 : ((ls : Int) != (lh : Int)) = true
    · go_wp2
      go_ret
      exact fine_mk (Below.refl _ _)
    obtain rfl : lh = ls := by simp at e3; omega
    clear e3
    go_wp2_with fail
    refine (clone32_any ah lh ch Z w (by omega) NH.out HH.out).mono ?_
    intro e w1 hm1
    obtain ⟨qh, rfl, hb1, hqh, hrh⟩ := made_val hm1
    clear hm1
    have HQH : Hid (qh = none ↔ ah = none) := hqh
    have HRH : Hid (ah ≠ none → qh = some ⟨w.heap.size, 0, none⟩ ∧ ∃ vs, VRow 21 w1 w.heap.size vs ∧ Each IsI32 lh vs) := hrh
    clear hqh hrh
    go_wp2_with fail
    refine (cloneT_any ap lh cp A L C Y w1 (by omega) NP.out (HP.out.kept hb1) HL.out).mono ?_
    intro e w2 hm2
    obtain ⟨qp, rfl, hb2, hqp, hrp⟩ := made_val hm2
    clear hm2 hqp
    have HRP : Hid (ap ≠ none → qp = some ⟨w1.heap.size, 0, none⟩ ∧ ∃ vs, VRow 24 w2 w1.heap.size vs ∧ Each IsSl lh vs) := hrp
    clear hrp
    have hb02 := hb1.trans (hb2.mono hb1.size)
    go_wp2_with fail
    refine (cloneT_any aq lh cs A' L' C' Y' w2 (by omega) NQ.out (HS.out.kept hb02) HL'.out).mono ?_
    intro e w3 hm3
    obtain ⟨qs, rfl, hb3, hqs, hrs⟩ := made_val hm3
    clear hm3 hqs
    have HRS : Hid (aq ≠ none → qs = some ⟨w2.heap.size, 0, none⟩ ∧ ∃ vs, VRow 24 w3 w2.heap.size vs ∧ Each IsSl lh vs) := hrs
    clear hrs
    have hb03 := hb02.trans (hb3.mono hb02.size)
    go_wp2_with fail
    refine (clone_any ab lb cb yb w3 (HB.out.kept hb03) hlb).mono ?_
    rintro e w4 ⟨qb, rfl, hcb, hb4⟩
    have hb04 := hb03.trans (hb4.mono hb03.size)
    by_cases hz : ah = none
    · obtain rfl := HQH.out.2 hz
      go_wp2_with fail
      refine (zz_steps c ms ex none qb 0 0 lb lb yb w4 hlb (hcb.row8 HB.out.1 HB.out.2.1)).mono ?_
      rintro e w5 ⟨rfl, hb5⟩
      go_wp2_with fail
      refine (model_any c qb lb lb yb w5 hlb ((hcb.later hb5).row8 HB.out.1 HB.out.2.1)).mono ?_
      rintro e w6 ⟨rfl, hw⟩
      obtain rfl := hw.symm
      clear hw
      go_wp2
      go_ret
      exact fine_mk (hb04.trans (hb5.mono hb04.size))
    · obtain ⟨rfl, vh, hvh, heh⟩ := HRH.out hz
      obtain ⟨i0, hi, hz0, hz1, hz2⟩ := info_parts Try.info33
      go_wp2_with (at_make; refine wpList_make_full _ rfl _ _ 30 rfl w4.heap.size 33 i0 (.agg #[.int .i32 0, .slice none 0 0, .slice none 0 0]) 3 Try.underlying30 hi hz0 hz1 _ _ _ _ lh rfl rfl rfl rfl ?b2 ?b3 (Nat.le_refl _) ?_)
      case b2 => rw [hz2]; omega
      case b3 => unfold maxLen; omega
      intro w5 hown hg
      have hG := own_vrow hown
      have hGl := size_madeCells (Value.agg #[.int .i32 0, .slice none 0 0, .slice none 0 0]).cells (lh * 3)
      rw [← Array.length_toList] at hGl
      have hb5 : Below w4.heap.size w4 w5 := (Below.refl _ _).grown hg (Nat.le_refl _) (fun k h => by cases h)
      clear hown hg hi hz0 hz1 hz2
      go_wp2_with fail
      go_loopw [16] (fun i wr => ∃ (k : Nat) (vs : List Value), k ≤ lh ∧ i = .int .i64 k ∧ VRow 33 wr w4.heap.size vs ∧ vs.length = lh * 3 ∧ Below w4.heap.size w4 wr) (fun i _ => lh - (intOf i).toNat)
      case atStart => exact ⟨0, _, by omega, rfl, hG, hGl, hb5⟩
      case round =>
        obtain ⟨k, vs, hk, rfl, hgk, hlk, hbk⟩ := hrel
        have HLK : Hid (vs.length = lh * 3) := hlk
        clear hlk hGl hG hb5
        by_cases hlt : k < lh
        · have hpn : ap ≠ none := fun h => by have := (NP.out h).1; omega
          have hqn : aq ≠ none := fun h => by have := (NQ.out h).1; omega
          obtain ⟨rfl, vp, hvp, hep⟩ := HRP.out hpn
          obtain ⟨rfl, vq, hvq, heq⟩ := HRS.out hqn
          obtain ⟨x1, g1, n1, rfl⟩ := heh.2 k hlt
          obtain ⟨x2, g2, a2, l2, c2, rfl⟩ := hep.2 k hlt
          obtain ⟨x3, g3, a3, l3, c3, rfl⟩ := heq.2 k hlt
          have f1 := (((((hvh.later hb2).later hb3).later hb4).later hbk).cell k).trans g1
          have f2 := ((((hvp.later hb3).later hb4).later hbk).cell k).trans g2
          have f3 := (((hvq.later hb4).later hbk).cell k).trans g3
          obtain ⟨y1, j1⟩ := each_any vs _ HLK.out (k * 3) (by omega)
          obtain ⟨y2, j2⟩ := each_any vs _ HLK.out (k * 3 + 1) (by omega)
          obtain ⟨y3, j3⟩ := each_any vs _ HLK.out (k * 3 + 2) (by omega)
          have t1 := (hgk.cell (k * 3)).trans j1
          have t2 := (hgk.cell (k * 3 + 1)).trans j2
          have t3 := (hgk.cell (k * 3 + 2)).trans j3
          have z1 := hgk.frozen (k * 3)
          have z2 := hgk.frozen (k * 3 + 1)
          have z3 := hgk.frozen (k * 3 + 2)
          have hki : (k : Int) < (lh : Int) := by omega
          clear g1 g2 g3 j1 j2 j3 hpn hqn
          go_wp2_with fail
          go_region
          go_wp2
          go_roundw
          case rel => exact ⟨k + 1, _, by omega, by go_num, (((hgk.set (k * 3) _).set (k * 3 + 1) _).set (k * 3 + 2) _).drew, by simpa using HLK.out, (((hbk.setCell (Nat.le_refl _) _).setCell (Nat.le_refl _) _).setCell (Nat.le_refl _) _).drew⟩
          case measure => simp [intOf]; omega
        · go_wp2_with fail
          refine (zz_steps c ms ex (some ⟨w4.heap.size, 0, none⟩) qb lh lh lb lb yb _ hlb ((hcb.later hbk).row8 HB.out.1 HB.out.2.1)).mono ?_
          rintro e w6 ⟨rfl, hb6⟩
          have hb46 := hbk.trans (hb6.mono hbk.size)
          go_wp2_with fail
          refine (model_any c qb lb lb yb _ hlb ((hcb.later hb46).row8 HB.out.1 HB.out.2.1)).mono ?_
          rintro e w7 ⟨rfl, hw⟩
          obtain rfl := hw.symm
          clear hw
          go_wp2
          go_ret
          exact fine_mk (hb04.trans (hb46.mono hb04.size))
end Go.Proofs.Qxb6602484a

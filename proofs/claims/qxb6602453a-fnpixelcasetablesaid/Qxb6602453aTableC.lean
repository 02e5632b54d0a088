/- FnPixelCaseTable: what the pixel does and what the byte's test says, family by family. -/
import Derived.Test.Qxb6602453aTableB
namespace Go.Proofs.Qxb6602453a
set_option linter.unusedVariables false
open Go.RowKit

set_option maxHeartbeats 400000 in
/-- Function 7 hands its arguments on to the pixel. -/
theorem zz_gen (fam comps n hival : Int) (pa oa la : Option Addr) (pl pc ol oc ll lc : Nat) (w : World) (Q : World → Prop)
    (h : ∀ w1, Below w.heap.size w w1 → Calls Try.prog 10 #[.agg #[.int .i64 fam, .int .i64 comps, .int .i64 n, .int .i64 hival, .slice pa pl pc], .slice oa ol oc, .slice la ll lc] w1
      fun e w' => e = .returned (.tuple #[]) ∧ Q w') :
    Calls Try.prog 7 #[.int .i64 fam, .int .i64 comps, .int .i64 n, .int .i64 hival, .slice pa pl pc, .slice oa ol oc, .slice la ll lc] w
      fun e w' => e = .returned (.tuple #[]) ∧ Q w' := by
  have H : Hid _ := h
  clear h
  go_enter Try.func7, Try.ntmps7
  go_wp2_with fail
  have hb : Below w.heap.size w (w.alloc (.cells #[.int .i64 fam, .int .i64 comps, .int .i64 n, .int .i64 hival, .slice pa pl pc] 30)) := (Below.refl _ _).alloc (Nat.le_refl _) _
  refine (H.out _ hb).mono ?_
  rintro e w' ⟨rfl, hq⟩
  go_wp2
  go_end0
  exact ⟨rfl, hq⟩

theorem below_of_grow {w w' : World} {g : Nat} (h : w.grownBy w' (some g)) (hg : g ≤ w.heap.size) : Below g w w' :=
  (Below.refl _ _).grown h hg (fun k hk => by cases hk; exact Nat.le_refl _)

theorem below_via {w w1 w' : World} {g : Nat} (h : Below w.heap.size w w1) (hg : g ≤ w.heap.size) (k : Below g w1 w') : Below g w w' := (h.mono hg).trans k

theorem Cloned.some {w : World} {a : Option Addr} {g : Nat} {ys : List Int} (h : Cloned w a g ys) (hp : 0 < ys.length) : a = Option.some ⟨g, 0, none⟩ ∧ BRow w g ys := by
  rcases h with ⟨_, rfl⟩ | h
  · simp at hp
  · exact h

theorem Cloned.head {w : World} {a : Option Addr} {g : Nat} {ys : List Int} (h : Cloned w a g ys) : Head a ys.length := by
  rcases h with ⟨rfl, rfl⟩ | ⟨rfl, _⟩
  · exact .inl ⟨rfl, rfl⟩
  · exact .inr ⟨_, rfl⟩

theorem pix_grey (f comps n hival : Int) (hf : f = 0 ∨ f = 3) (lp lo ll : Nat) (P O L : List Int) (lO : O.length = lo) (lL : L.length = ll) (q1 : 1 ≤ lo) (q2 : 1 ≤ ll) (m2 : lo ≤ 65536) (m3 : ll ≤ 65536) :
    PixDo f comps n hival lp lo ll P O L (O.set 0 (L[(0 : Nat)]?.getD 0)) := by
  intro w1 pa la ga p l g hp hl hg np nl hgs
  obtain ⟨rfl, hl2⟩ := hl.some (by omega); have hl := hl2
  obtain ⟨rfl, hg2⟩ := hg.some (by omega); have hg := hg2
  have hlg := nl _ rfl
  subst lO; subst lL
  refine zz_gen f comps n hival pa _ _ lp lp _ _ _ _ w1 _ (fun w2 hw2 => (pixel_grey f comps n hival hf pa lp lp g l O L w2 (hg.later hw2) (hl.later hw2) (by omega) q1 q2 (by omega) (by omega)).mono ?_)
  rintro e w3 ⟨rfl, h1, h2⟩
  exact ⟨rfl, below_via hw2 hgs (below_of_grow h1 (Nat.le_trans hgs hw2.size)), .inr ⟨rfl, h2⟩⟩

theorem pix_rgb (comps n hival : Int) (lp lo ll : Nat) (P O L : List Int) (lO : O.length = lo) (lL : L.length = ll) (q1 : 3 ≤ lo) (m2 : lo ≤ 65536) (m3 : ll ≤ 65536) :
    PixDo 1 comps n hival lp lo ll P O L (splice O 0 (L.take 3)) := by
  intro w1 pa la ga p l g hp hl hg np nl hgs
  obtain ⟨rfl, hg2⟩ := hg.some (by omega); have hg := hg2
  refine zz_gen 1 comps n hival pa _ _ lp lp _ _ _ _ w1 _ (fun w2 hw2 => (pixel_rgb comps n hival pa la lp lp g l lo ll O L w2 lO lL (hg.later hw2) (hl.later hw2) q1 (by omega) (by omega)).mono ?_)
  rintro e w3 ⟨rfl, h1, h2⟩
  exact ⟨rfl, below_via hw2 hgs h1, .inr ⟨rfl, h2⟩⟩

theorem pix_cmyk (comps n hival : Int) (lp lo ll : Nat) (P O L : List Int) (lO : O.length = lo) (lL : L.length = ll) (q1 : 3 ≤ lo) (q2 : 4 ≤ ll) (m2 : lo ≤ 65536) (m3 : ll ≤ 65536)
    (hb : ∀ i : Nat, 0 ≤ L[i]?.getD 0 ∧ L[i]?.getD 0 ≤ 255) :
    PixDo 2 comps n hival lp lo ll P O L (cmTo 3 L O) := by
  intro w1 pa la ga p l g hp hl hg np nl hgs
  obtain ⟨rfl, hl2⟩ := hl.some (by omega); have hl := hl2
  obtain ⟨rfl, hg2⟩ := hg.some (by omega); have hg := hg2
  have hlg := nl _ rfl
  subst lO; subst lL
  refine zz_gen 2 comps n hival pa _ _ lp lp _ _ _ _ w1 _ (fun w2 hw2 => (pixel_cmyk comps n hival pa lp lp g l O L w2 (hg.later hw2) (hl.later hw2) (by omega) q1 q2 (by omega) (by omega) hb).mono ?_)
  rintro e w3 ⟨rfl, h1, h2⟩
  exact ⟨rfl, below_via hw2 hgs (below_of_grow h1 (Nat.le_trans hgs hw2.size)), .inr ⟨rfl, h2⟩⟩

theorem pix_tint (U : Nat) (n hival : Int) (lp lo ll : Nat) (P O L : List Int) (lO : O.length = lo) (lL : L.length = ll) (q1 : 1 ≤ lo) (q2 : U ≤ ll) (m2 : lo ≤ 65536) (m3 : ll ≤ 65536)
    (hb : ∀ i : Nat, 0 ≤ L[i]?.getD 0 ∧ L[i]?.getD 0 ≤ 255) :
    PixDo 4 U n hival lp lo ll P O L (O.set 0 (255 - dark U L)) := by
  intro w1 pa la ga p l g hp hl hg np nl hgs
  obtain ⟨rfl, hg2⟩ := hg.some (by omega); have hg := hg2
  subst lO; subst lL
  rcases hl with ⟨rfl, rfl⟩ | ⟨rfl, hl⟩
  · obtain rfl : U = 0 := by simpa using q2
    refine zz_gen 4 0 n hival pa _ _ lp lp _ _ _ _ w1 _ (fun w2 hw2 => (pixel_tint_nil n hival pa lp lp g O w2 (hg.later hw2) q1 (by omega)).mono ?_)
    rintro e w3 ⟨rfl, h1, h2⟩
    exact ⟨rfl, below_via hw2 hgs (below_of_grow h1 (Nat.le_trans hgs hw2.size)), .inr ⟨rfl, h2⟩⟩
  · have hlg := nl _ rfl
    refine zz_gen 4 U n hival pa _ _ lp lp _ _ _ _ w1 _ (fun w2 hw2 => (pixel_tint n hival U pa lp lp g l O L w2 (hg.later hw2) (hl.later hw2) (by omega) q1 q2 (by omega) (by omega) hb).mono ?_)
    rintro e w3 ⟨rfl, h1, h2⟩
    exact ⟨rfl, below_via hw2 hgs (below_of_grow h1 (Nat.le_trans hgs hw2.size)), .inr ⟨rfl, h2⟩⟩

theorem pix_none (f comps n hival : Int) (hf : f < 0 ∨ 5 < f) (lp lo ll : Nat) (P O L : List Int) : PixDo f comps n hival lp lo ll P O L O := by
  intro w1 pa la ga p l g hp hl hg np nl hgs
  refine zz_gen f comps n hival pa _ _ lp lp _ _ _ _ w1 _ (fun w2 hw2 => (pixel_none f comps n hival hf pa ga la lp lp lo lo ll ll w2).mono ?_)
  rintro e w3 ⟨rfl, h1⟩
  have h2 := hw2.trans (h1.mono hw2.size)
  exact ⟨rfl, h2.mono hgs, hg.later h2⟩

theorem pix_idx (comps hival : Int) (N base : Nat) (lp lo ll : Nat) (P O L : List Int) (lP : P.length = lp) (lO : O.length = lo) (lL : L.length = ll) (q1 : 0 < ll) (q2 : N ≤ lo) (q3 : base ≤ lp)
    (hbase : L[(0 : Nat)]?.getD 0 * (N : Int) = (base : Int)) (m1 : lp ≤ 65536) (m2 : lo ≤ 65536) (m3 : ll ≤ 65536)
    (hb : ∀ i : Nat, 0 ≤ L[i]?.getD 0 ∧ L[i]?.getD 0 ≤ 255) :
    PixDo 5 comps N hival lp lo ll P O L (splice O 0 ((P.drop base).take N)) := by
  intro w1 pa la ga p l g hp hl hg np nl hgs
  obtain ⟨rfl, hl2⟩ := hl.some (by omega); have hl := hl2
  have hlg := nl _ rfl
  by_cases h0 : N = 0
  · subst h0
    have e : splice O 0 ((P.drop base).take 0) = O := by simp [splice]
    rw [e]
    refine zz_gen 5 comps 0 hival pa _ _ lp lp _ _ _ _ w1 _ (fun w2 hw2 => (pixel_idx0 comps hival l lp lo ll pa ga L w2 lL (lP ▸ hp.head) (lO ▸ hg.head) (hl.later hw2) q1 m2 m3 m1).mono ?_)
    rintro e w3 ⟨rfl, h1⟩
    have h2 := hw2.trans (h1.mono hw2.size)
    exact ⟨rfl, h2.mono hgs, hg.later h2⟩
  · obtain ⟨rfl, hg2⟩ := hg.some (by omega); have hg := hg2
    by_cases h1 : base = lp
    · have e : splice O 0 ((P.drop base).take N) = O := by
        have : P.drop base = [] := List.drop_eq_nil_of_le (by omega)
        simp [splice, this]
      rw [e]
      refine zz_gen 5 comps N hival pa _ _ lp lp _ _ _ _ w1 _ (fun w2 hw2 => (pixel_idx1 comps hival (L[(0 : Nat)]?.getD 0) N l g lp lo ll pa w2 (lP ▸ hp.head) (hl.later hw2).lt (by simpa using (hl.later hw2).cell 0 (by omega)) (hb 0).1 (hb 0).2 (h1 ▸ hbase) q2 q1 m2 m3 m1).mono ?_)
      rintro e w3 ⟨rfl, h1⟩
      have h2 := hw2.trans (h1.mono hw2.size)
      exact ⟨rfl, h2.mono hgs, .inr ⟨rfl, hg.later h2⟩⟩
    · obtain ⟨rfl, hp2⟩ := hp.some (by omega); have hp := hp2
      refine zz_gen 5 comps N hival _ _ _ lp lp _ _ _ _ w1 _ (fun w2 hw2 => (pixel_idx comps hival N base p g l lp lo ll P O L w2 lP lO lL (hp.later hw2) (hg.later hw2) (hl.later hw2) (hb 0).1 (hb 0).2 hbase (by omega) q2 (by omega) q1 m3 m1).mono ?_)
      rintro e w3 ⟨rfl, h1, h2⟩
      exact ⟨rfl, below_via hw2 hgs h1, .inr ⟨rfl, h2⟩⟩

/-! The byte's test. -/
theorem BRow.at {w : World} {g : Nat} {zs : List Int} (h : BRow w g zs) (i : Nat) (hi : i < zs.length) : w.cell? ⟨g, i, none⟩ = some (.int .u8 (zs[i]?.getD 0)) := by
  rw [h.cell i hi]; simp

theorem BRow.is {w : World} {g : Nat} {zs : List Int} (h : BRow w g zs) (i : Nat) (hi : i < zs.length) (v : Int) (hv : zs[i]?.getD 0 = v) : w.cell? ⟨g, i, none⟩ = some (.int .u8 v) := by
  rw [h.at i hi, hv]

theorem set_at (O : List Int) (x : Int) (j : Nat) (h : 0 < j) : (O.set 0 x)[j]?.getD 0 = O[j]?.getD 0 := by
  rw [List.getElem?_set_ne (by omega)]

theorem set_at0 (O : List Int) (x : Int) (h : 0 < O.length) : (O.set 0 x)[(0 : Nat)]?.getD 0 = x := by
  simp [h]

theorem cmTo_at (L O : List Int) (h : 3 ≤ O.length) (j : Nat) : (cmTo 3 L O)[j]?.getD 0 = if j < 3 then cm (L[j]?.getD 0) (L[(3 : Nat)]?.getD 0) else O[j]?.getD 0 := by
  match j with
  | 0 => simp [cmTo, show 0 < O.length by omega]
  | 1 => simp [cmTo, show 1 < O.length by omega]
  | 2 => simp [cmTo, show 2 < O.length by omega]
  | j + 3 => rw [if_neg (by omega)]; simp only [cmTo]; rw [List.getElem?_set_ne (by omega), List.getElem?_set_ne (by omega), List.getElem?_set_ne (by omega)]

theorem yes_grey (f comps n : Int) (hf : f = 0 ∨ f = 3) (lp lo ll : Nat) (P O L : List Int) (lO : O.length = lo) (lL : L.length = ll) (q1 : 1 ≤ lo) (q2 : 1 ≤ ll) (m2 : lo ≤ 65536) (m3 : ll ≤ 65536) :
    ByteYes f comps n lp lo ll P O L (O.set 0 (L[(0 : Nat)]?.getD 0)) := by
  intro w1 pa oa la ga p o l g hp ho hl hg j hj
  obtain ⟨rfl, hl2⟩ := hl.some (by omega); have hl := hl2
  obtain ⟨rfl, ho2⟩ := ho.some (by omega); have ho := ho2
  obtain ⟨rfl, hg2⟩ := hg.some (by simp; omega); have hg := hg2
  by_cases h0 : j = 0
  · subst h0
    exact ok_grey f comps n pa _ lp lp ll lo lo lo l g (L[(0 : Nat)]?.getD 0) w1 hf (hl.at 0 (by omega)) (hg.is 0 (by simp; omega) _ (set_at0 _ _ (by omega))) (by omega) (by omega)
  · exact ok_same f comps n pa _ lp lp ll ll lo o g j (O[j]?.getD 0) w1 (.inl ⟨hf, by omega⟩) (ho.at j (by omega)) (hg.is j (by simp; omega) _ (set_at _ _ _ (by omega))) hj m2 m3

theorem yes_rgb (comps n : Int) (lp lo ll : Nat) (P O L : List Int) (lO : O.length = lo) (lL : L.length = ll) (q1 : 3 ≤ lo) (m2 : lo ≤ 65536) (m3 : ll ≤ 65536) :
    ByteYes 1 comps n lp lo ll P O L (splice O 0 (L.take 3)) := by
  intro w1 pa oa la ga p o l g hp ho hl hg j hj
  have hlen : (splice O 0 (L.take 3)).length = lo := by rw [length_splice _ _ _ (by simp; omega), lO]
  obtain ⟨rfl, ho2⟩ := ho.some (by omega); have ho := ho2
  obtain ⟨rfl, hg2⟩ := hg.some (by omega); have hg := hg2
  have hv := splice_at O (L.take 3) j
  by_cases h0 : j < 3 ∧ j < ll
  · obtain ⟨rfl, hl2⟩ := hl.some (by omega); have hl := hl2
    rw [if_pos (by simp; omega)] at hv
    have hv' : (splice O 0 (L.take 3))[j]?.getD 0 = L[j]?.getD 0 := by rw [hv, List.getElem?_take, if_pos h0.1]
    exact ok_rgb comps n pa _ lp lp ll lo lo lo l g j (L[j]?.getD 0) w1 h0.1 (hl.at j (by omega)) (hg.is j (by omega) _ hv') h0.2 hj m3
  · rw [if_neg (by simp; omega)] at hv
    exact ok_same 1 comps n pa _ lp lp ll ll lo o g j (O[j]?.getD 0) w1 (.inr (.inl ⟨rfl, by omega⟩)) (ho.at j (by omega)) (hg.is j (by omega) _ hv) hj m2 m3

theorem yes_cmyk (comps n : Int) (lp lo ll : Nat) (P O L : List Int) (lO : O.length = lo) (lL : L.length = ll) (q1 : 3 ≤ lo) (q2 : 4 ≤ ll) (m2 : lo ≤ 65536) (m3 : ll ≤ 65536)
    (hb : ∀ i : Nat, 0 ≤ L[i]?.getD 0 ∧ L[i]?.getD 0 ≤ 255) :
    ByteYes 2 comps n lp lo ll P O L (cmTo 3 L O) := by
  intro w1 pa oa la ga p o l g hp ho hl hg j hj
  obtain ⟨rfl, hl2⟩ := hl.some (by omega); have hl := hl2
  obtain ⟨rfl, ho2⟩ := ho.some (by omega); have ho := ho2
  obtain ⟨rfl, hg2⟩ := hg.some (by rw [length_cmTo]; omega); have hg := hg2
  have hv := cmTo_at L O (by omega) j
  by_cases h0 : j < 3
  · rw [if_pos h0] at hv
    have hj1 := hb j
    have hj3 := hb 3
    obtain ⟨k1, k2⟩ := mul_bd (255 - L[j]?.getD 0) (255 - L[(3 : Nat)]?.getD 0) (by omega) (by omega) (by omega) (by omega)
    refine ok_cmyk comps n pa _ lp lp ll lo lo lo l g j (L[j]?.getD 0) (L[(3 : Nat)]?.getD 0) (cm (L[j]?.getD 0) (L[(3 : Nat)]?.getD 0)) w1 h0 (hl.at j (by omega)) (hl.at 3 (by omega)) (hg.is j (by rw [length_cmTo]; omega) _ hv) q2 hj m3 hj1.1 hj1.2 hj3.1 hj3.2 ?_ ?_ ?_ ?_
    all_goals
      unfold cm
      generalize (255 - L[j]?.getD 0) * (255 - L[(3 : Nat)]?.getD 0) = m at k1 k2 ⊢
      omega
  · rw [if_neg h0] at hv
    exact ok_same 2 comps n pa _ lp lp ll ll lo o g j (O[j]?.getD 0) w1 (.inr (.inr (.inl ⟨rfl, by omega⟩))) (ho.at j (by omega)) (hg.is j (by rw [length_cmTo]; omega) _ hv) hj m2 m3

theorem yes_tint (U : Nat) (n : Int) (lp lo ll : Nat) (P O L : List Int) (lO : O.length = lo) (lL : L.length = ll) (q1 : 1 ≤ lo) (q2 : U ≤ ll) (m2 : lo ≤ 65536) (m3 : ll ≤ 65536)
    (hb : ∀ i : Nat, 0 ≤ L[i]?.getD 0 ∧ L[i]?.getD 0 ≤ 255) :
    ByteYes 4 U n lp lo ll P O L (O.set 0 (255 - dark U L)) := by
  intro w1 pa oa la ga p o l g hp ho hl hg j hj
  obtain ⟨rfl, ho2⟩ := ho.some (by omega); have ho := ho2
  obtain ⟨rfl, hg2⟩ := hg.some (by simp; omega); have hg := hg2
  by_cases h0 : j = 0
  · subst h0
    have hc := hg.is 0 (by simp; omega) _ (set_at0 _ _ (by omega))
    by_cases hU : U = 0
    · subst hU
      exact ok_tint0 n pa _ la lp lp ll ll lo lo lo g w1 hc (by omega)
    · obtain ⟨rfl, hl2⟩ := hl.some (by omega); have hl := hl2
      have hd := dark_bd L hb U
      obtain ⟨q, hq, e⟩ := dark_hit L (fun i => (hb i).1) U (by omega)
      exact ok_tint n U pa _ lp lp ll lo lo lo l g L (255 - dark U L) w1 (by omega) q2 m3 (fun i hi => hl.at i (by omega)) hb (by omega) (by omega) (fun q hq => by have := dark_ge L U q hq; omega) ⟨q, hq, by omega⟩ hc (by omega)
  · exact ok_same 4 U n pa _ lp lp ll ll lo o g j (O[j]?.getD 0) w1 (.inr (.inr (.inr (.inl ⟨rfl, by omega⟩)))) (ho.at j (by omega)) (hg.is j (by simp; omega) _ (set_at _ _ _ (by omega))) hj m2 m3

theorem yes_none (f comps n : Int) (hf : f < 0 ∨ 5 < f) (lp lo ll : Nat) (P O L : List Int) (lO : O.length = lo) (m2 : lo ≤ 65536) (m3 : ll ≤ 65536) : ByteYes f comps n lp lo ll P O L O := by
  intro w1 pa oa la ga p o l g hp ho hl hg j hj
  obtain ⟨rfl, ho2⟩ := ho.some (by omega); have ho := ho2
  obtain ⟨rfl, hg2⟩ := hg.some (by omega); have hg := hg2
  exact ok_same f comps n pa _ lp lp ll ll lo o g j (O[j]?.getD 0) w1 (.inr (.inr (.inr (.inr hf)))) (ho.at j (by omega)) (hg.at j (by omega)) hj m2 m3

theorem yes_idx (comps : Int) (N base : Nat) (lp lo ll : Nat) (P O L : List Int) (lP : P.length = lp) (lO : O.length = lo) (lL : L.length = ll) (q1 : 0 < ll) (q2 : N ≤ lo) (q3 : base ≤ lp)
    (hbase : L[(0 : Nat)]?.getD 0 * (N : Int) = (base : Int)) (m1 : lp ≤ 65536) (m2 : lo ≤ 65536) (m3 : ll ≤ 65536)
    (hb : ∀ i : Nat, 0 ≤ L[i]?.getD 0 ∧ L[i]?.getD 0 ≤ 255) :
    ByteYes 5 comps N lp lo ll P O L (splice O 0 ((P.drop base).take N)) := by
  intro w1 pa oa la ga p o l g hp ho hl hg j hj
  have hlen : (splice O 0 ((P.drop base).take N)).length = lo := by rw [length_splice _ _ _ (by simp; omega), lO]
  obtain ⟨rfl, hl2⟩ := hl.some (by omega); have hl := hl2
  obtain ⟨rfl, ho2⟩ := ho.some (by omega); have ho := ho2
  obtain ⟨rfl, hg2⟩ := hg.some (by omega); have hg := hg2
  have hv := splice_at O ((P.drop base).take N) j
  by_cases h0 : j < N ∧ base + j < lp
  · obtain ⟨rfl, hp2⟩ := hp.some (by omega); have hp := hp2
    rw [if_pos (by simp; omega)] at hv
    have hv' : (splice O 0 ((P.drop base).take N))[j]?.getD 0 = P[base + j]?.getD 0 := by rw [hv, List.getElem?_take, if_pos h0.1, List.getElem?_drop]
    exact ok_idx comps N base p l g j lp ll lo lo lo _ (L[(0 : Nat)]?.getD 0) (P[base + j]?.getD 0) w1 (hl.at 0 (by omega)) (hb 0).1 (hb 0).2 hbase q1 q3 m1 (by omega) h0.1 h0.2 hj (hp.at (base + j) (by omega)) (hg.is j (by omega) _ hv')
  · rw [if_neg (by simp; omega)] at hv
    exact ok_idx_same comps N base l g o j lp ll lo pa (L[(0 : Nat)]?.getD 0) (O[j]?.getD 0) w1 (hl.at 0 (by omega)) (hb 0).1 (hb 0).2 hbase q1 q3 m1 (by omega) (by omega) hj (ho.at j (by omega)) (hg.is j (by omega) _ hv)
end Go.Proofs.Qxb6602453a

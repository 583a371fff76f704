/-
  FOR 'Rows.LawS6139BWholeSaid': the walk of the law itself.
-/
import Derived.Test.YbulkdwcqBPartB
import Derived.Test.YbulkdwcqBPartC
import Derived.Deep.RegionHeld3
import Derived.Deep.DrawnRows
import Derived.Deep.CutBlock
import Derived.Deep.CutRange
import Derived.Deep.DeepCutAuto
import Derived.Deep.QuietTactic
import Derived.BigQuiet
namespace Go.Proofs.Ybulkdwcq.lawB
open Go.ChangeShapes Go.WideShapes Go.ChangeAt Go.RowKit Go.Maps Go.WideMaps Go.WideElems
set_option linter.unusedVariables false
attribute [local go_sem ↓] Go.wp_at_zero Go.wp_at_succ

set_option maxRecDepth 100000 in
set_option maxHeartbeats 8000000 in
theorem law_in (a : Arg) (dir : ByteArray) (w : World) (hs : a.Small) (hi : a.In w) (hsum : (a.P.length : Int) + a.E.length + a.N.length + a.C.length + a.T.length + a.V.length + a.K.length + a.L.length ≤ 1048576) :
    Calls Yba.prog 3 #[.agg #[.string a.user, .slice a.sP a.P.length a.cP, .slice a.sE a.E.length a.cE, .slice a.sN a.N.length a.cN, .slice a.sC a.C.length a.cC, .bool a.hc, .slice a.sT a.T.length a.cT, .slice a.sV a.V.length a.cV, .string a.wd, .slice a.sK a.K.length a.cK, .slice a.sL a.L.length a.cL], .string dir] w fun e w' =>
      e = .returned (.bool true) ∧ Below w.heap.size w w' := by
  obtain ⟨s1, s2, s3, s4, s5, s6, s7, s8⟩ := id hs
  go_enter Yba.func3, Yba.ntmps3
  go_wp2_with fail
  obtain ⟨A, hA⟩ : ∃ A, A = w.heap.size := ⟨_, rfl⟩
  obtain ⟨wa, hwa⟩ : ∃ wa, wa = w.alloc (boxA a a.sK a.sL) := ⟨_, rfl⟩
  have hba : Below w.heap.size w wa := by rw [hwa]; exact (Below.refl _ _).alloc (Nat.le_refl _) _
  have hAb : wa.heap[A]? = some (boxA a a.sK a.sL) := by rw [hwa, hA]; exact heap_alloc_new _ _
  unfold boxA at hwa
  rw [← hwa, ← hA]
  clear hwa hA
  refine (build_any a _ hs (hi.below hba)).mono ?_
  rintro e w1 ⟨R1, x1, rfl, hB1, hl1, hb1⟩
  have hA1 := (hb1.block A (lt_of_some hAb)).trans hAb
  obtain ⟨c0, c1, c2, c3, c4, c5, c6, c7, c8, c9, c10⟩ := boxA_cell hA1
  go_wp2_with fail
  refine (build_any a _ hs ((hi.below hba).below hb1)).mono ?_
  rintro e w2 ⟨R2, x2, rfl, hB2, hl2, hb2⟩
  clear c0 c1 c2 c3 c4 c5 c6 c7 c8 c9 c10
  have hR1l := lt_of_some hB1.box
  have hAl := lt_of_some hA1
  have hf2 : Fin a w A R1 R2 a.wd x1 x2 w2 := ⟨hB1.below hb2, hB2, (hb2.block A hAl).trans hA1, (hba.trans (hb1.mono hba.size)).trans (hb2.mono (by have := hba.size; have := hb1.size; omega))⟩
  have hR12 : R1 ≠ R2 := by omega
  have hAR1 : A ≠ R1 := by have := lt_of_some hAb; omega
  have hwR1 : w.heap.size ≤ R1 := by have := hba.size; omega
  obtain ⟨mP1, oE1, kE1, oN1, kN1, oC1, kC1, ho1, mV1, mL1, hx1⟩ := hB1.parts.shapes
  obtain ⟨mP2, oE2, kE2, oN2, kN2, oC2, kC2, ho2, mV2, mL2, hx2⟩ := hB2.parts.shapes
  obtain ⟨X1, hX1⟩ : ∃ X1, X1 = x1 := ⟨_, rfl⟩
  obtain ⟨X2, hX2⟩ : ∃ X2, X2 = x2 := ⟨_, rfl⟩
  subst hX1 hX2
  have HX1 : Hid (X1 = ⟨.map mP1, .slice oE1 a.E.length kE1, .slice oN1 a.N.length kN1, .slice oC1 a.C.length kC1, .pointer ho1, .map mV1, .map mL1⟩) := hx1
  have HX2 : Hid (X2 = ⟨.map mP2, .slice oE2 a.E.length kE2, .slice oN2 a.N.length kN2, .slice oC2 a.C.length kC2, .pointer ho2, .map mV2, .map mL2⟩) := hx2
  clear hB1 hB2 hb1 hb2 hba hAb hA1 hl1 hl2 hx1 hx2
  have h5 : w2.cell? ⟨R1, 5, none⟩ = some (.pointer ho1) := by
    obtain ⟨_, _, _, _, _, c, _⟩ := boxR_cell hf2.b1.box
    rw [HX1.out] at c; exact c
  go_upto_region 6 with fail
  refine part6 a dir w A R1 R2 X1 X2 w2 hf2 hR12 hAR1 hwR1 _ _ ?_
  intro u6 v8 w3 hcut
  obtain ⟨herr, hf3⟩ := hcut
  clear h5 hf2
  go_upto_region 7 with fail
  refine part7 dir w3 _ _ ?_
  intro u7 v9 wc hcut
  obtain ⟨rfl, hwc⟩ := hcut
  subst hwc
  go_upto_region 8 with fail
  refine part8 dir v8 w3 herr _ _ ?_
  intro u8 v9 v65 wc hcut
  obtain ⟨rfl, rfl, hwc⟩ := hcut
  subst hwc
  obtain ⟨_, _, _, _, _, _, _, y7, _, _⟩ := boxR_cell hf3.b2.box
  go_upto_if 70 with fail
  refine part70 a dir w3 _ _ ?_
  intro u70 v9 v10 v70 wc hcut
  obtain ⟨rfl, rfl, hwc⟩ := hcut
  subst hwc
  clear herr y7
  obtain ⟨dd, hdd⟩ : ∃ dd, dd = dirOf a dir := ⟨_, rfl⟩
  rw [← hdd] at hf3 ⊢
  clear hdd
  go_upto_region 13 with fail
  refine part13 a w A R1 R2 X1 X2 dd w3 hf3 _ _ ?_
  intro u13 v88 w4 hcut
  obtain ⟨rfl, hf4⟩ := hcut
  clear hf3
  go_upto_region 15 with fail
  refine part15 a w A R1 R2 X1 X2 mP1 mV1 mL1 mP2 mV2 mL2 oE1 oN1 oC1 ho1 oE2 oN2 oC2 ho2 kE1 kN1 kC1 kE2 kN2 kC2 HX1 HX2 dd hs hi w4 hf4 _ _ ?_
  intro u15 v122 w5 hcut
  obtain ⟨rfl, hf5⟩ := hcut
  clear hf4
  go_upto_region 17 with fail
  refine part17 a w A R1 R2 X1 X2 mP1 mV1 mL1 mP2 mV2 mL2 oE1 oN1 oC1 ho1 oE2 oN2 oC2 ho2 kE1 kN1 kC1 kE2 kN2 kC2 HX1 HX2 dd hs hi w5 hf5 _ _ ?_
  intro u17 v148 w6 hcut
  obtain ⟨rfl, hf6⟩ := hcut
  clear hf5
  go_upto_region 19 with fail
  refine part19 a w A R1 R2 X1 X2 mP1 mV1 mL1 mP2 mV2 mL2 oE1 oN1 oC1 ho1 oE2 oN2 oC2 ho2 kE1 kN1 kC1 kE2 kN2 kC2 HX1 HX2 dd hs hi w6 hf6 _ _ ?_
  intro u19 v160 w7 hcut
  obtain ⟨rfl, hf7⟩ := hcut
  clear hf6
  obtain ⟨_, _, _, _, _, z5, _, _, _, _⟩ := boxR_cell hf7.b1.box
  have e1 : X1.h = .pointer ho1 := by rw [HX1.out]
  have e2 : X2.h = .pointer ho2 := by rw [HX2.out]
  rw [e1] at z5
  have hpp := neq28 ho1
  rcases hf7.b1.parts.hc with ⟨hh, hn⟩ | ⟨hh, G1, vT1, hn1, hG1, hT1⟩
  · rw [e1] at hn
    obtain rfl : ho1 = none := by simpa using hn
    clear e1 e2 hn hh
    go_wp2
    go_ret
    exact ⟨rfl, hf7.bel⟩
  · rcases hf7.b2.parts.hc with ⟨hh', _⟩ | ⟨_, G2, vT2, hn2, hG2, hT2⟩
    · rw [hh] at hh'; simp at hh'
    · rw [e1] at hn1
      obtain rfl : ho1 = some ⟨G1, 0, none⟩ := by simpa using hn1
      obtain ⟨oT1, kT1, rfl, _⟩ := id hT1
      obtain ⟨oT2, kT2, rfl, _⟩ := id hT2
      have gc : ∀ f : Nat, w7.cell? ⟨G1, f, none⟩ = #[Value.slice oT1 a.T.length kT1, .pointer none, .pointer none, .pointer none, .pointer none, .pointer none][f]? := fun f => cell_of_row w7 G1 f _ 41 (0, 0) hG1
      have g1 : w7.cell? ⟨G1, 1, none⟩ = some (.pointer none) := gc 1
      have g2 : w7.cell? ⟨G1, 2, none⟩ = some (.pointer none) := gc 2
      have g3 : w7.cell? ⟨G1, 3, none⟩ = some (.pointer none) := gc 3
      have g4 : w7.cell? ⟨G1, 4, none⟩ = some (.pointer none) := gc 4
      have g5 : w7.cell? ⟨G1, 5, none⟩ = some (.pointer none) := gc 5
      clear gc hh hn1 e1 e2
      go_upto_region 26 with fail
      refine part26 a w A R1 R2 X1 X2 dd hs w7 hf7 G1 G2 oT1 oT2 kT1 kT2 hn2 hG1 hG2 hT1 hT2 _ _ ?_
      intro u26 v214 w8 hcut
      obtain ⟨rfl, hf8⟩ := hcut
      clear hf7 hT1 hT2 hG1 hG2 g1 g2 g3 g4 g5 z5
      go_wp2
      go_ret
      exact ⟨rfl, hf8.bel⟩

set_option maxRecDepth 100000 in
theorem law_big (a : Arg) (dir : ByteArray) (w : World) (b1 : a.P.length ≤ 8796093022208) (b2 : a.E.length ≤ 8796093022208) (b3 : a.N.length ≤ 8796093022208) (b4 : a.C.length ≤ 8796093022208) (b5 : a.T.length ≤ 8796093022208) (b6 : a.V.length ≤ 8796093022208) (b7 : a.K.length ≤ 8796093022208) (b8 : a.L.length ≤ 8796093022208)
    (hsum : (1048576 : Int) < (a.P.length : Int) + a.E.length + a.N.length + a.C.length + a.T.length + a.V.length + a.K.length + a.L.length) :
    Calls Yba.prog 3 #[.agg #[.string a.user, .slice a.sP a.P.length a.cP, .slice a.sE a.E.length a.cE, .slice a.sN a.N.length a.cN, .slice a.sC a.C.length a.cC, .bool a.hc, .slice a.sT a.T.length a.cT, .slice a.sV a.V.length a.cV, .string a.wd, .slice a.sK a.K.length a.cK, .slice a.sL a.L.length a.cL], .string dir] w fun e w' =>
      e = .returned (.bool true) ∧ Below w.heap.size w w' := by
  go_enter Yba.func3, Yba.ntmps3
  go_wp2
  go_ret
  exact ⟨rfl, (Below.refl _ _).alloc (Nat.le_refl _) _⟩
end Go.Proofs.Ybulkdwcq.lawB

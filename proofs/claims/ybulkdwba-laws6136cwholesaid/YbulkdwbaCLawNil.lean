/-
  FOR 'Rows.LawS6136CWholeSaid': the walk of the law where its changes are nil, and where an input is beyond the law's bounds.
-/
import Derived.Test.YbulkdwbaCState
import Derived.Deep.RegionHeld3
import Derived.Deep.DrawnRows
import Derived.Deep.CutBlock
import Derived.Deep.CutRange
import Derived.Deep.DeepCutAuto
namespace Go.Proofs.Ybulkdwba.lawC
open Go.ChangeShapes Go.WideShapes Go.ChangeAt Go.RowKit Go.Deep
set_option linter.unusedVariables false
attribute [local go_sem ↓] Go.wp_at_zero Go.wp_at_succ

set_option maxRecDepth 100000 in
theorem law_big1 (sa sb sc : Option Addr) (la ca lb cb n cap : Nat) (w : World) (h : (16384 : Int) < (la : Int)) :
    Calls Yba.prog 4 #[.slice sa la ca, .slice sb lb cb, .slice sc n cap] w fun e w' => e = .returned (.bool true) ∧ Below w.heap.size w w' := by
  go_enter Yba.func4, Yba.ntmps4
  go_wp2
  go_ret
  exact ⟨rfl, Below.refl _ _⟩
set_option maxRecDepth 100000 in
theorem law_big2 (sa sb sc : Option Addr) (la ca lb cb n cap : Nat) (w : World) (h0 : (la : Int) ≤ 16384) (h : (16384 : Int) < (lb : Int)) :
    Calls Yba.prog 4 #[.slice sa la ca, .slice sb lb cb, .slice sc n cap] w fun e w' => e = .returned (.bool true) ∧ Below w.heap.size w w' := by
  go_enter Yba.func4, Yba.ntmps4
  go_wp2
  go_ret
  exact ⟨rfl, Below.refl _ _⟩
set_option maxRecDepth 100000 in
theorem law_big3 (sa sb sc : Option Addr) (la ca lb cb n cap : Nat) (w : World) (h0 : (la : Int) ≤ 16384) (h1 : (lb : Int) ≤ 16384) (h : (1024 : Int) < (n : Int)) :
    Calls Yba.prog 4 #[.slice sa la ca, .slice sb lb cb, .slice sc n cap] w fun e w' => e = .returned (.bool true) ∧ Below w.heap.size w w' := by
  go_enter Yba.func4, Yba.ntmps4
  go_wp2
  go_ret
  exact ⟨rfl, Below.refl _ _⟩

set_option maxRecDepth 100000 in
set_option maxHeartbeats 2000000 in
theorem law_nil (sa sb : Option Addr) (la ca lb cb : Nat) (za zb : List Int) (w : World) (hla : la ≤ 16384) (hlb : lb ≤ 16384) (ha : InI w sa la ca za) (hb : InI w sb lb cb zb) :
    Calls Yba.prog 4 #[.slice sa la ca, .slice sb lb cb, .slice none 0 0] w fun e w' => e = .returned (.bool true) ∧ Below w.heap.size w w' := by
  have hmk : ∀ wx : World, (Instr.makeSlice 44 (.int .i64 0) (.int .i64 0)).run Yba.prog wx = .ok (.slice (some ⟨wx.heap.size, 0, none⟩) 0 0) (wx.alloc (rowC [])) := fun wx => run_make51 0 (by omega) wx
  have hnil1 := fun wx => Lib.run_eql_slice_nil (P := Yba.prog) wx 44 51 none 0 0 0 0 Yba.underlying44
  have hnil2 := fun wx => Lib.run_eql_slice_nil (P := Yba.prog) wx 39 46 none 0 0 0 0 Yba.underlying39
  go_enter Yba.func4, Yba.ntmps4
  go_wp2_with fail
  refine (ids_any sa la ca za _ hla ha).mono ?_
  rintro e w1 ⟨ra, rfl, hra, hb1, hia⟩
  go_wp2_with fail
  refine (ids_any sb lb cb zb _ hlb (hb.below hb1)).mono ?_
  rintro e w2 ⟨rb, rfl, hrb, hb2, hib⟩
  go_wp2_with fail
  obtain ⟨ci, hci⟩ : ∃ ci, ci = (za.take la).map id4 := ⟨_, rfl⟩
  obtain ⟨oi, hoi⟩ : ∃ oi, oi = (zb.take lb).map id4 := ⟨_, rfl⟩
  have hcl : ci.length = la := by rw [hci]; have := ha.1; simp; omega
  have hol : oi.length = lb := by rw [hoi]; have := hb.1; simp; omega
  have hT3 : Tl w w2.heap.size (w2.heap.size + 1) ra rb la lb ci oi (((w2.alloc (boxT (.slice ra la la))).alloc (boxT (.slice rb lb lb))).alloc (rowC [])) := by
    rw [← hci] at hia
    rw [← hoi] at hib
    have s1 := hb1.size
    have s2 := hb2.size
    have hb3 := below3 w2 (boxT (.slice ra la la)) (boxT (.slice rb lb lb)) (rowC [])
    have k : ∀ (g : Nat) (o : Obj), w2.heap[g]? = some o → (((w2.alloc (boxT (.slice ra la la))).alloc (boxT (.slice rb lb lb))).alloc (rowC [])).heap[g]? = some o := fun g o hg => (hb3.block g (lt_of_some hg)).trans hg
    exact ⟨al3_0 _ _ _ _, al3_1 _ _ _ _, IdsAt.keep (IdsAt.keep hia fun g o hg => (hb2.block g (lt_of_some hg)).trans hg) k, IdsAt.keep hib k, (hb1.trans (hb2.mono s1)).trans (hb3.mono (by omega))⟩
  obtain ⟨w3, hw3⟩ : ∃ w3, w3 = ((w2.alloc (boxT (.slice ra la la))).alloc (boxT (.slice rb lb lb))).alloc (rowC []) := ⟨_, rfl⟩
  obtain ⟨W, hW⟩ : ∃ W, W = w2.heap.size + 1 + 1 := ⟨_, rfl⟩
  obtain ⟨B, hB⟩ : ∃ B, B = w2.heap.size + 1 := ⟨_, rfl⟩
  obtain ⟨A, hA⟩ : ∃ A, A = w2.heap.size := ⟨_, rfl⟩
  rw [← hw3, ← hB, ← hA] at hT3
  unfold boxT at hw3
  rw [← hw3, ← hW, ← hB, ← hA]
  have HCI : Hid (ci = (za.take la).map id4) := hci
  have HOI : Hid (oi = (zb.take lb).map id4) := hoi
  have HCL : Hid (ci.length = la) := hcl
  have HOL : Hid (oi.length = lb) := hol
  clear hw3 hW hB hA hci hoi hcl hol hia hib hb1 hb2 hmk
  refine wp_loop_rounds 1 ?_
  rw [rounds_succ]
  go_wp2_with fail
  refine (trim_nil _ _ _).mono ?_
  rintro e w3' ⟨rfl, hw3'⟩
  subst hw3'
  go_upto_region 33 with fail
  go_quiet (fail)
  go_wp2
  refine wp_loop_rounds 1 ?_
  rw [rounds_succ]
  go_upto_region 41 with fail
  have hT4 := hT3.drewN nq
  obtain ⟨w4, hw4⟩ : ∃ w4, w4 = w3'.drewN nq := ⟨_, rfl⟩
  rw [← hw4] at hT4 ⊢
  clear hw4 hT3 hnil1 hnil2
  have tok1 : True := trivial
  have tok2 : True := trivial
  have tok3 : True := trivial
  go_region_held3 (fun w' => w'.cell? ⟨A, 2, none⟩ = some (.slice ra la la) ∧ w'.cell? ⟨B, 2, none⟩ = some (.slice rb lb lb) ∧ Tl w A B ra rb la lb ci oi w')
    (first | exact Tl.held_drew hT4 | exact held_next (by assumption) (by assumption) | exact held_drewN (by assumption))
    (first | (go_at_call 12; have _t := tok1; refine (ids_any sa la ca za _ hla (inI_held ha (by assumption))).mono ?_; rintro e w5 ⟨r5, rfl, hr5, hb5, hi5⟩; clear tok1) | (go_at_call 15; have _t := tok2; refine (eq_same ra _ la la la ci _ hla (Nat.le_of_eq HCL.out.symm) (ids_a HCL.out (by assumption)) (ids_of HCI.out HCL.out hi5)).mono ?_; rintro e w6 ⟨rfl, q6, rfl⟩; clear tok2) | (go_at_call 12; have _t := tok3; refine (ids_any sb lb cb zb _ hlb (inI_held hb (by assumption))).mono ?_; rintro e w7 ⟨r7, rfl, hr7, hb7, hi7⟩; clear tok3) | (go_at_call 15; refine (eq_same rb _ lb lb lb oi _ hlb (Nat.le_of_eq HOL.out.symm) (ids_b HOL.out (by assumption)) (ids_of HOI.out HOL.out hi7)).mono ?_; rintro e w8 ⟨rfl, q8, rfl⟩))
  obtain ⟨_, _, hT8⟩ : (w7.drewN q8).cell? ⟨A, 2, none⟩ = some (.slice ra la la) ∧ (w7.drewN q8).cell? ⟨B, 2, none⟩ = some (.slice rb lb lb) ∧ Tl w A B ra rb la lb ci oi (w7.drewN q8) := by assumption
  obtain ⟨p0, p1⟩ := boxT_nils hT8.ta
  obtain ⟨p2, p3⟩ := boxT_nils hT8.tb
  clear hb5 hi5 hb7 hi7
  go_wp2
  go_ret
  exact ⟨rfl, hT8.bel⟩
end Go.Proofs.Ybulkdwba.lawC

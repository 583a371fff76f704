/-
  FOR 'Rows.LawS6139BWholeSaid': zzs6139bbuild: its contract.
-/
import Derived.Test.YbulkdwcqBState
import Derived.Deep.RegionHeld3
import Derived.Deep.DrawnRows
import Derived.Deep.CutBlock
import Derived.Deep.CutRange
import Derived.Deep.DeepCutAuto
import Derived.Maps.RangeWalk
namespace Go.Proofs.Ybulkdwcq.lawB
open Go.ChangeShapes Go.WideShapes Go.ChangeAt Go.RowKit Go.Maps Go.WideMaps Go.WideElems
set_option linter.unusedVariables false
attribute [local go_sem ↓] Go.wp_at_zero Go.wp_at_succ

theorem set_sh (sa : Option Addr) (cap : Nat) (ss : List ByteArray) (w : World) (hl : ss.length ≤ 1048576) (h : InS w sa cap ss) :
    Calls Yba.prog 13 #[.slice sa ss.length cap] w fun e w' => ∃ mo, e = .returned (.map mo) ∧ SetAt w' (.map mo) sa.isNone ss ∧ Below w.heap.size w w' := by
  refine (set_any sa cap ss w hl h).mono ?_
  rintro e w' ⟨v, rfl, hs, hb⟩
  rcases hs with ⟨rfl, e⟩ | ⟨B, rfl, e, o⟩
  · exact ⟨_, rfl, .inl ⟨rfl, e⟩, hb⟩
  · exact ⟨_, rfl, .inr ⟨B, rfl, e, o⟩, hb⟩
theorem clone_sh (sa : Option Addr) (cap : Nat) (ss : List ByteArray) (w : World) (hl : ss.length ≤ 1048576) (h : InS w sa cap ss) :
    Calls Yba.prog 14 #[.slice sa ss.length cap] w fun e w' => ∃ oa k, e = .returned (.slice oa ss.length k) ∧ StrsAt w'.heap (.slice oa ss.length k) sa.isNone ss ∧ Below w.heap.size w w' := by
  refine (clone_any sa cap ss w hl h).mono ?_
  rintro e w' ⟨v, rfl, ⟨oa, k, rfl, e1, e2⟩, hb⟩
  exact ⟨oa, k, rfl, ⟨oa, k, rfl, e1, e2⟩, hb⟩

/-- What is held while the literal is built: the argument's box, and all that was there. -/
def Hold (a : Arg) (sK sL : Option Addr) (A : Nat) (wb h : World) : Prop := h.heap[A]? = some (boxA a sK sL) ∧ Below wb.heap.size wb h
theorem hold_cells {a : Arg} {sK sL : Option Addr} {A : Nat} {wb h : World} (s : Hold a sK sL A wb h) :
    h.cell? ⟨A, 0, none⟩ = some (.string a.user) ∧ h.cell? ⟨A, 1, none⟩ = some (.slice a.sP a.P.length a.cP) ∧ h.cell? ⟨A, 2, none⟩ = some (.slice a.sE a.E.length a.cE) ∧ h.cell? ⟨A, 3, none⟩ = some (.slice a.sN a.N.length a.cN) ∧
    h.cell? ⟨A, 4, none⟩ = some (.slice a.sC a.C.length a.cC) ∧ h.cell? ⟨A, 7, none⟩ = some (.slice a.sV a.V.length a.cV) ∧ h.cell? ⟨A, 8, none⟩ = some (.string a.wd) ∧ Hold a sK sL A wb h := by
  obtain ⟨c0, c1, c2, c3, c4, c5, c6, c7, c8, c9, c10⟩ := boxA_cell s.1
  exact ⟨c0, c1, c2, c3, c4, c7, c8, s⟩
theorem Hold.drew {a : Arg} {sK sL : Option Addr} {A : Nat} {wb h : World} (s : Hold a sK sL A wb h) : Hold a sK sL A wb h.drew := ⟨s.1, s.2.drew⟩
theorem Hold.below {a : Arg} {sK sL : Option Addr} {A : Nat} {wb h h' : World} (hb : Below h.heap.size h h') (s : Hold a sK sL A wb h) : Hold a sK sL A wb h' := ⟨(hb.block _ (lt_of_some s.1)).trans s.1, s.2.trans (hb.mono s.2.size)⟩
theorem hold_next {a : Arg} {sK sL : Option Addr} {A : Nat} {wb h h' : World} (hb : Below h.heap.size h h') (s : h.cell? ⟨A, 0, none⟩ = some (.string a.user) ∧ h.cell? ⟨A, 1, none⟩ = some (.slice a.sP a.P.length a.cP) ∧ h.cell? ⟨A, 2, none⟩ = some (.slice a.sE a.E.length a.cE) ∧ h.cell? ⟨A, 3, none⟩ = some (.slice a.sN a.N.length a.cN) ∧
    h.cell? ⟨A, 4, none⟩ = some (.slice a.sC a.C.length a.cC) ∧ h.cell? ⟨A, 7, none⟩ = some (.slice a.sV a.V.length a.cV) ∧ h.cell? ⟨A, 8, none⟩ = some (.string a.wd) ∧ Hold a sK sL A wb h) :
    h'.cell? ⟨A, 0, none⟩ = some (.string a.user) ∧ h'.cell? ⟨A, 1, none⟩ = some (.slice a.sP a.P.length a.cP) ∧ h'.cell? ⟨A, 2, none⟩ = some (.slice a.sE a.E.length a.cE) ∧ h'.cell? ⟨A, 3, none⟩ = some (.slice a.sN a.N.length a.cN) ∧
    h'.cell? ⟨A, 4, none⟩ = some (.slice a.sC a.C.length a.cC) ∧ h'.cell? ⟨A, 7, none⟩ = some (.slice a.sV a.V.length a.cV) ∧ h'.cell? ⟨A, 8, none⟩ = some (.string a.wd) ∧ Hold a sK sL A wb h' := hold_cells (s.2.2.2.2.2.2.2.below hb)
theorem hold_in {a : Arg} {sK sL : Option Addr} {A : Nat} {wb h : World} (i : a.In wb) (s : h.cell? ⟨A, 0, none⟩ = some (.string a.user) ∧ h.cell? ⟨A, 1, none⟩ = some (.slice a.sP a.P.length a.cP) ∧ h.cell? ⟨A, 2, none⟩ = some (.slice a.sE a.E.length a.cE) ∧ h.cell? ⟨A, 3, none⟩ = some (.slice a.sN a.N.length a.cN) ∧
    h.cell? ⟨A, 4, none⟩ = some (.slice a.sC a.C.length a.cC) ∧ h.cell? ⟨A, 7, none⟩ = some (.slice a.sV a.V.length a.cV) ∧ h.cell? ⟨A, 8, none⟩ = some (.string a.wd) ∧ Hold a sK sL A wb h) : a.In h := i.below s.2.2.2.2.2.2.2.2

/-- Behind the literal: no labels, no health check yet. -/
structure AtLit (a : Arg) (sK sL : Option Addr) (A : Nat) (wb : World) (R : Nat) (x : Vals) (wc : World) : Prop where
  box : wc.heap[R]? = some (boxR (.string a.user) x.p x.e x.n x.c (.pointer none) x.v (.string a.wd) (.map none))
  p : SetAt wc x.p a.sP.isNone a.P
  e : StrsAt wc.heap x.e a.sE.isNone a.E
  n : StrsAt wc.heap x.n a.sN.isNone a.N
  c : StrsAt wc.heap x.c a.sC.isNone a.C
  v : SetAt wc x.v a.sV.isNone a.V
  lo : wb.heap.size ≤ R
  hold : Hold a sK sL A wb wc

theorem Kept.trans {h h' h'' : World} (k : Kept h h') (k' : Kept h' h'') : Kept h h'' := ⟨fun b es cl hh => k'.1 b es cl (k.1 b es cl hh), fun g cur t ht hh => k'.2 g cur t ht (k.2 g cur t ht hh)⟩

set_option maxRecDepth 100000 in
set_option maxHeartbeats 2000000 in
theorem build_core (a : Arg) (sK sL : Option Addr) (w : World) (hs : a.Small) (hi : a.In w) (hK : InS w sK a.cK a.K) (hL : InS w sL a.cL a.L) (hnK : a.sK.isNone = sK.isNone) :
    Calls Yba.prog 5 #[.agg #[.string a.user, .slice a.sP a.P.length a.cP, .slice a.sE a.E.length a.cE, .slice a.sN a.N.length a.cN, .slice a.sC a.C.length a.cC, .bool a.hc, .slice a.sT a.T.length a.cT, .slice a.sV a.V.length a.cV, .string a.wd, .slice sK a.K.length a.cK, .slice sL a.L.length a.cL]] w fun e w' =>
      ∃ R x, e = .returned (.pointer (some ⟨R, 0, none⟩)) ∧ Built a R a.wd x w' ∧ w.heap.size ≤ R ∧ Below w.heap.size w w' := by
  go_enter Yba.func5, Yba.ntmps5
  go_upto_region 1 with fail
  have HN : Hid (a.sK.isNone = sK.isNone) := hnK
  clear hnK
  obtain ⟨A, hA⟩ : ∃ A, A = w.heap.size := ⟨_, rfl⟩
  obtain ⟨wb, hwb⟩ : ∃ wb, wb = w.alloc (boxA a sK sL) := ⟨_, rfl⟩
  have hbb : Below w.heap.size w wb := by rw [hwb]; exact (Below.refl _ _).alloc (Nat.le_refl _) _
  have hAb : wb.heap[A]? = some (boxA a sK sL) := by rw [hwb, hA]; exact heap_alloc_new _ _
  have hib := hi.below hbb
  have hKb := hK.below hbb
  have hLb := hL.below hbb
  clear hK hL
  have hAl := lt_of_some hAb
  unfold boxA at hwb
  rw [← hwb, ← hA]
  have HA : Hid (A = w.heap.size) := hA
  clear hwb hA
  have hH : Hold a sK sL A wb wb := ⟨hAb, Below.refl _ _⟩
  go_cut [3] (fun v wc => ∃ (R : Nat) (x : Vals), v = .pointer (some ⟨R, 0, none⟩) ∧ AtLit a sK sL A wb R x wc)
  case first =>
    have tok1 : True := trivial
    have tok2 : True := trivial
    have tok3 : True := trivial
    have tok4 : True := trivial
    go_region_held3 (fun w' => w'.cell? ⟨A, 0, none⟩ = some (.string a.user) ∧ w'.cell? ⟨A, 1, none⟩ = some (.slice a.sP a.P.length a.cP) ∧ w'.cell? ⟨A, 2, none⟩ = some (.slice a.sE a.E.length a.cE) ∧ w'.cell? ⟨A, 3, none⟩ = some (.slice a.sN a.N.length a.cN) ∧ w'.cell? ⟨A, 4, none⟩ = some (.slice a.sC a.C.length a.cC) ∧ w'.cell? ⟨A, 7, none⟩ = some (.slice a.sV a.V.length a.cV) ∧ w'.cell? ⟨A, 8, none⟩ = some (.string a.wd) ∧ Hold a sK sL A wb w')
      (first | exact hold_cells hH.drew | exact hold_next (by assumption) (by assumption) | (refine hold_next ((Below.refl _ _).alloc (Nat.le_refl _) _) ?_; assumption))
      (first | (go_at_call 13; have _t := tok1; refine (set_sh a.sP a.cP a.P _ hs.P (hold_in hib (by assumption)).P).mono ?_; rintro e w1 ⟨mP, rfl, hP, hb1⟩; clear tok1) | (go_at_call 14; have _t := tok2; refine (clone_sh a.sE a.cE a.E _ hs.E (hold_in hib (by assumption)).E).mono ?_; rintro e w2 ⟨oE, kE, rfl, hE, hb2⟩; clear tok2) | (go_at_call 14; have _t := tok3; refine (clone_sh a.sN a.cN a.N _ hs.N (hold_in hib (by assumption)).N).mono ?_; rintro e w3 ⟨oN, kN, rfl, hN, hb3⟩; clear tok3) | (go_at_call 14; have _t := tok4; refine (clone_sh a.sC a.cC a.C _ hs.C (hold_in hib (by assumption)).C).mono ?_; rintro e w4 ⟨oC, kC, rfl, hC, hb4⟩; clear tok4) | (go_at_call 13; refine (set_sh a.sV a.cV a.V _ hs.V (hold_in hib (by assumption)).V).mono ?_; rintro e w5 ⟨mV, rfl, hV, hb5⟩))
    go_wp2
    go_meet
    refine ⟨w5.heap.size, ⟨.map mP, .slice oE a.E.length kE, .slice oN a.N.length kN, .slice oC a.C.length kC, .pointer none, .map mV, .map none⟩, rfl, ?_⟩
    have k5 : Kept w5 (w5.alloc (boxR (.string a.user) (.map mP) (.slice oE a.E.length kE) (.slice oN a.N.length kN) (.slice oC a.C.length kC) (.pointer none) (.map mV) (.string a.wd) (.map none))) := Kept.of_below ((Below.refl _ _).alloc (Nat.le_refl _) _)
    have k4 := (Kept.of_below hb5).trans k5
    have k3 := (Kept.of_below hb4).trans k4
    have k2 := (Kept.of_below hb3).trans k3
    have k1 := (Kept.of_below hb2).trans k2
    have hH5 : Hold a sK sL A wb w5 := Hold.below hb5 (Hold.below hb4 (Hold.below hb3 (Hold.below hb2 (Hold.below hb1 hH.drew))))
    exact ⟨heap_alloc_new _ _, hP.keep k1.1, hE.kept k2, hN.kept k3, hC.kept k4, hV.keep k5.1, hH5.2.size, Hold.below ((Below.refl _ _).alloc (Nat.le_refl _) _) hH5⟩
  case rest =>
    obtain ⟨R, x, rfl, hL⟩ := hcut
    clear hH
    have hnn := fun wx => run_neq_slice_nil_any (P := Yba.prog) wx 22 9 sK a.K.length a.cK 0 0 Yba.underlying22
    obtain ⟨c0, c1, c2, c3, c4, c5, c6, c7, c8, c9, c10⟩ := boxA_cell hL.hold.1
    go_upto_if 30 with fail
    obtain ⟨w6, hw6⟩ : ∃ w6, w6 = wc := ⟨_, rfl⟩
    subst hw6
    have hRl := lt_of_some hL.box
    have hAl2 := lt_of_some hL.hold.1
    have hAR : A ≠ R := by have := hL.lo; omega
    go_cut [] (fun w2 => ∃ l : Option Nat, w2.heap[R]? = some (boxR (.string a.user) x.p x.e x.n x.c (.pointer none) x.v (.string a.wd) (.map l)) ∧ LblAt w2 (.map l) sK.isNone a.K a.L ∧ w6.grownBy w2 (some R))
    case first =>
      cases sK with
      | none =>
        go_wp2
        go_meet
        exact ⟨none, hL.box, .inl ⟨rfl, rfl⟩, World.grownBy.refl _ _⟩
      | some xK =>
        have hmm := @run_makeMap Yba.prog
        obtain ⟨_, _, _, _, _, _, _, _, r8, rf⟩ := boxR_cell hL.box
        have f8 := rf 8
        clear rf
        go_wp2_with fail
        obtain ⟨M, hM⟩ : ∃ M, M = w6.heap.size := ⟨_, rfl⟩
        obtain ⟨wl, hwl⟩ : ∃ wl, wl = (w6.setCell ⟨R, 8, none⟩ (.map (some M))).alloc (.map #[] 0) := ⟨_, rfl⟩
        have hRM : R < M := by rw [hM]; exact hRl
        have hAM : A < M := by rw [hM]; exact hAl2
        have hwbM : wb.heap.size ≤ M := by rw [hM]; exact hL.hold.2.size
        have hlo := hL.lo
        have hMc : w6.heap.size ≤ M := by rw [hM]; exact Nat.le_refl _
        have hRb : wl.heap[R]? = some (boxR (.string a.user) x.p x.e x.n x.c (.pointer none) x.v (.string a.wd) (.map (some M))) := by
          rw [hwl, Below.heap_alloc _ _ _ (by simpa using hRl)]
          have hbx := hL.box
          unfold boxR at hbx ⊢
          rw [heap_setCell_same _ R 8 _ 31 _ hbx]; rfl
        have hAw : wl.heap[A]? = some (boxA a (some xK) sL) := by
          rw [hwl, Below.heap_alloc _ _ _ (by simpa using hAl2), heap_setCell_other _ _ _ _ (by exact hAR)]; exact hL.hold.1
        have hbl : Below wb.heap.size wb wl := by
          rw [hwl]; exact (hL.hold.2.setCell hlo _).alloc (by simpa using hL.hold.2.size) _
        have hgl : w6.grownBy wl (some R) := by
          rw [hwl]
          refine ⟨rfl, rfl, rfl, by simp, fun k hk hne => ?_⟩
          rw [Below.heap_alloc _ _ _ (by simpa using hk), heap_setCell_other _ _ _ _ (fun e => hne (by rw [show k = R from e]))]
        have hown0 : wl.ownsMap Yba.prog 9 (plainElem (H := Unit) Yba.prog 9) M 0 (DL a.K a.L 0) := by
          have := World.ownsMap_made (w6.setCell ⟨R, 8, none⟩ (.map (some M))) Yba.prog 9 (plainElem (H := Unit) Yba.prog 9)
          have hsz : (w6.setCell ⟨R, 8, none⟩ (.map (some M))).heap.size = M := by rw [hM]; simp
          rw [hsz] at this
          rw [hwl]
          exact this
        have hMl : wl.heap.size = M + 1 := by rw [hwl, hM]; simp
        rw [← hM, ← hwl]
        clear hM hwl hmm hnn r8 f8 c0 c1 c2 c3 c4 c5 c6 c7 c8 c9 c10
        have HML : Hid (wl.heap.size = M + 1) := hMl
        clear hMl
        go_loopw [38] (fun i wr => ∃ j : Nat, j ≤ a.K.length ∧ i = .int .i64 j ∧ wr.ownsMap Yba.prog 9 (plainElem (H := Unit) Yba.prog 9) M j (DL a.K a.L j) ∧ Below M wl wr) (fun i _ => a.K.length - (intOf i).toNat)
        case atStart => exact ⟨0, Nat.zero_le _, rfl, hown0, Below.refl _ _⟩
        case round =>
          obtain ⟨j, hj, rfl, hown, hbel⟩ := hrel
          have hsK := hs.K
          by_cases hjl : j < a.K.length
          · obtain ⟨b, off, ex, hlt, hc⟩ := hKb.2.1 (by omega)
            obtain rfl : xK = ⟨b, off, none⟩ := by simpa using ex
            have hbw : Below wb.heap.size wb wr := hbl.trans (hbel.mono hwbM)
            have hcj : wr.cell? ⟨b, off + j, none⟩ = some (.string (a.K[j]?.getD ByteArray.empty)) := by rw [hbw.cell (by exact hlt)]; exact hc j hjl
            have hsz := hKb.2.2 _ (mem_at hjl)
            obtain ⟨_, _, _, _, _, _, _, _, _, _, c10⟩ := boxA_cell ((hbel.block A hAM).trans hAw)
            obtain ⟨_, _, _, _, _, _, _, _, r8, _⟩ := boxR_cell ((hbel.block R hRM).trans hRb)
            have hnext : DL a.K a.L (j + 1) = (DL a.K a.L j).put (litS (a.K[j]?.getD ByteArray.empty)) (.lit (.string (lv a.L j).data.toList)) := rfl
            obtain ⟨s, hsv⟩ : ∃ s, s = a.K[j]?.getD ByteArray.empty := ⟨_, rfl⟩
            rw [← hsv] at hcj hsz hnext
            by_cases hjL : j < a.L.length
            · obtain ⟨b2, off2, rfl, hlt2, hc2⟩ := hLb.2.1 (by omega)
              have hsz2 := hLb.2.2 _ (mem_at hjL)
              have hcj2 : wr.cell? ⟨b2, off2 + j, none⟩ = some (.string (a.L[j]?.getD ByteArray.empty)) := by rw [hbw.cell (by exact hlt2)]; exact hc2 j hjL
              obtain ⟨t, htv⟩ : ∃ t, t = a.L[j]?.getD ByteArray.empty := ⟨_, rfl⟩
              have hlv : lv a.L j = t := by rw [htv]; rfl
              rw [← htv] at hcj2 hsz2
              rw [hlv] at hnext
              have HN2 : Hid (DL a.K a.L (j + 1) = (DL a.K a.L j).put (litS s) (.lit (.string t.data.toList))) := hnext
              clear hsv htv hlv hnext ex hc hc2
              go_wp2_with (at_mapUpdate; refine wpList_mapUpdate_own _ rfl _ _ _ 29 rfl 9 9 law9 Yba.underlying29 _ M j _ rfl hown (by unfold maxLen; omega) _ _ _ rfl rfl (key9 hsz) _ [] (plainElem_string Yba.underlying9 hsz2) ?_; intro w1 hown1 hg1; go_frame)
              go_roundw
              case rel => exact ⟨j + 1, by omega, by go_num, by rw [HN2.out]; exact hown1, hbel.grown hg1 (by have := hbel.size; have := HML.out; omega) (fun k hk => by cases hk; exact Nat.le_refl _)⟩
              case measure => simp [intOf]; omega
            · have hlv : lv a.L j = ⟨#[]⟩ := by unfold lv; rw [List.getElem?_eq_none (by omega)]; rfl
              rw [hlv] at hnext
              have HN2 : Hid (DL a.K a.L (j + 1) = (DL a.K a.L j).put (litS s) (.lit (.string (⟨#[]⟩ : ByteArray).data.toList))) := hnext
              clear hsv hlv hnext ex hc
              go_wp2_with (at_mapUpdate; refine wpList_mapUpdate_own _ rfl _ _ _ 29 rfl 9 9 law9 Yba.underlying29 _ M j _ rfl hown (by unfold maxLen; omega) _ _ _ rfl rfl (key9 hsz) _ [] (plainElem_string Yba.underlying9 (Nat.zero_le _)) ?_; intro w1 hown1 hg1; go_frame)
              go_roundw
              case rel => exact ⟨j + 1, by omega, by go_num, by rw [HN2.out]; exact hown1, hbel.grown hg1 (by have := hbel.size; have := HML.out; omega) (fun k hk => by cases hk; exact Nat.le_refl _)⟩
              case measure => simp [intOf]; omega
          · obtain rfl : j = a.K.length := by omega
            go_wp2
            go_meet
            refine ⟨some M, (hbel.block R hRM).trans hRb, .inr ⟨M, rfl, rfl, hown⟩, ?_⟩
            exact ⟨hbel.os.trans hgl.os, hbel.tape.trans hgl.tape, hbel.output.trans hgl.output, Nat.le_trans hgl.size hbel.size, fun k hk hne => (hbel.block k (by omega)).trans (hgl.block k hk hne)⟩
    case rest =>
      obtain ⟨l, hbx, hlb, hg7⟩ := hcut
      have hA7 : wc.heap[A]? = some (boxA a sK sL) := by rw [hg7.block A hAl2 (by simpa using hAR)]; exact hL.hold.1
      obtain ⟨c0, c1, c2, c3, c4, c5, c6, c7, c8, c9, c10⟩ := boxA_cell hA7
      have hbox6 := hL.box
      unfold boxR at hbox6
      have k67 : Kept w6 wc := Kept.of_grown hbox6 hg7
      have hlo := hL.lo
      have hb67 : Below wb.heap.size wb wc := hL.hold.2.trans ⟨hg7.os, hg7.tape, hg7.output, hg7.size, fun k hk => hg7.block k (by have := hL.hold.2.size; omega) (by simp; omega)⟩
      have hsz6 := hbb.size
      cases hh : a.hc with
      | false =>
        go_wp2
        go_ret
        refine ⟨R, ⟨x.p, x.e, x.n, x.c, .pointer none, x.v, .map l⟩, rfl, ⟨hbx, ⟨hL.p.keep k67.1, hL.e.kept k67, hL.n.kept k67, hL.c.kept k67, hL.v.keep k67.1, by rw [HN.out]; exact hlb, .inl ⟨hh, rfl⟩⟩⟩, by omega, hbb.trans (hb67.mono hsz6)⟩
      | true =>
        go_wp2_with fail
        refine (clone_sh a.sT a.cT a.T _ hs.T (hib.below hb67).T).mono ?_
        rintro e w8 ⟨oT, kT, rfl, hT, hb8⟩
        have hR8 := (hb8.block R (lt_of_some hbx)).trans hbx
        obtain ⟨_, _, _, _, _, r5, _, _, _, rf⟩ := boxR_cell hR8
        have f5 := rf 5
        have hR8l := lt_of_some hR8
        clear rf
        go_wp2
        go_ret
        have hR8' := hR8
        unfold boxR at hR8'
        have g8 : w8.grownBy (w8.setCell ⟨R, 5, none⟩ (.pointer (some ⟨w8.heap.size, 0, none⟩))) (some R) := ⟨rfl, rfl, rfl, by simp, fun k hk hne => heap_setCell_other _ _ _ _ (fun e => hne (by rw [show k = R from e]))⟩
        have k8 : Kept w8 ((w8.setCell ⟨R, 5, none⟩ (.pointer (some ⟨w8.heap.size, 0, none⟩))).alloc (.cells #[.slice oT a.T.length kT, .pointer none, .pointer none, .pointer none, .pointer none, .pointer none] 41)) :=
          (Kept.of_grown hR8' g8).trans (Kept.of_below ((Below.refl _ _).alloc (Nat.le_refl _) _))
        have kA := (k67.trans (Kept.of_below hb8)).trans k8
        have kB := (Kept.of_below hb8).trans k8
        have hszE : (w8.setCell ⟨R, 5, none⟩ (.pointer (some ⟨w8.heap.size, 0, none⟩))).heap.size = w8.heap.size := by simp
        refine ⟨R, ⟨x.p, x.e, x.n, x.c, .pointer (some ⟨w8.heap.size, 0, none⟩), x.v, .map l⟩, rfl, ⟨?_, ⟨hL.p.keep kA.1, hL.e.kept kA, hL.n.kept kA, hL.c.kept kA, hL.v.keep kA.1, by rw [HN.out]; exact hlb.keep kB.1, .inr ⟨hh, w8.heap.size, _, rfl, ?_, hT.kept k8⟩⟩⟩, by omega, ?_⟩
        · rw [Below.heap_alloc _ _ _ (by rw [hszE]; exact hR8l), heap_setCell_same _ R 5 _ 31 _ hR8']; rfl
        · have := heap_alloc_new (w8.setCell ⟨R, 5, none⟩ (.pointer (some ⟨w8.heap.size, 0, none⟩))) (.cells #[.slice oT a.T.length kT, .pointer none, .pointer none, .pointer none, .pointer none, .pointer none] 41)
          rw [hszE] at this
          exact this
        · have h8 : Below wb.heap.size wb w8 := hb67.trans (hb8.mono hb67.size)
          have h9 : Below wb.heap.size wb ((w8.setCell ⟨R, 5, none⟩ (.pointer (some ⟨w8.heap.size, 0, none⟩))).alloc (.cells #[.slice oT a.T.length kT, .pointer none, .pointer none, .pointer none, .pointer none, .pointer none] 41)) := (h8.setCell hlo _).alloc (by rw [hszE]; exact h8.size) _
          exact hbb.trans (h9.mono hsz6)

theorem build_any (a : Arg) (w : World) (hs : a.Small) (hi : a.In w) :
    Calls Yba.prog 5 #[.agg #[.string a.user, .slice a.sP a.P.length a.cP, .slice a.sE a.E.length a.cE, .slice a.sN a.N.length a.cN, .slice a.sC a.C.length a.cC, .bool a.hc, .slice a.sT a.T.length a.cT, .slice a.sV a.V.length a.cV, .string a.wd, .slice a.sK a.K.length a.cK, .slice a.sL a.L.length a.cL]] w fun e w' =>
      ∃ R x, e = .returned (.pointer (some ⟨R, 0, none⟩)) ∧ Built a R a.wd x w' ∧ w.heap.size ≤ R ∧ Below w.heap.size w w' := build_core a a.sK a.sL w hs hi hi.K hi.L rfl
end Go.Proofs.Ybulkdwcq.lawB

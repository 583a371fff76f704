/-
  FOR 'Rows.LawS6136CWholeSaid': the walk of the law itself where its changes are not nil; five of its statements by theorems of their own.
-/
import Derived.Test.YbulkdwbaCPart2
import Derived.Test.YbulkdwbaCPart4
import Derived.Test.YbulkdwbaCPart6
import Derived.Deep.RegionHeld3
import Derived.Deep.DrawnRows
import Derived.Deep.CutBlock
import Derived.Deep.CutRange
import Derived.Deep.DeepCutAuto
namespace Go.Proofs.Ybulkdwba.lawC
open Go.ChangeShapes Go.WideShapes Go.ChangeAt Go.RowKit Go.Deep
set_option linter.unusedVariables false
attribute [local go_sem ↓] Go.wp_at_zero Go.wp_at_succ

set_option maxRecDepth 100000 in
set_option maxHeartbeats 4000000 in
theorem law_some (sa sb : Option Addr) (la ca lb cb : Nat) (za zb : List Int) (x : Addr) (n cap : Nat) (r : Nat → Rec) (w : World) (hla : la ≤ 16384) (hlb : lb ≤ 16384) (hn : n ≤ 1024)
    (ha : InI w sa la ca za) (hb : InI w sb lb cb zb) (hc : 0 < n → ∃ b off, x = ⟨b, off, none⟩ ∧ InC w b off n r) :
    Calls Yba.prog 4 #[.slice sa la ca, .slice sb lb cb, .slice (some x) n cap] w fun e w' => e = .returned (.bool true) ∧ Below w.heap.size w w' := by
  have hmk := fun wx => run_make51 n hn wx
  go_enter Yba.func4, Yba.ntmps4
  go_wp2_with fail
  refine (ids_any sa la ca za _ hla ha).mono ?_
  rintro e w1 ⟨ra, rfl, hra, hb1, hia⟩
  go_wp2_with fail
  refine (ids_any sb lb cb zb _ hlb (hb.below hb1)).mono ?_
  rintro e w2 ⟨rb, rfl, hrb, hb2, hib⟩
  go_wp2_with fail
  obtain ⟨ci, hci⟩ : ∃ ci, ci = (za.take la).map id4 := ⟨_, rfl⟩
  obtain ⟨oi, hoi⟩ : ∃ oi, oi = (zb.take lb).map id4 := ⟨_, rfl⟩
  have hcl : ci.length = la := by rw [hci]; have := ha.1; simp; omega
  have hol : oi.length = lb := by rw [hoi]; have := hb.1; simp; omega
  have hS : St w w2.heap.size (w2.heap.size + 1) (w2.heap.size + 1 + 1) (w2.heap.size + 1 + 1 + 1) ra rb ci oi n [] [] ((((w2.alloc (boxT (.slice ra la la))).alloc (boxT (.slice rb lb lb))).alloc (rowC (List.replicate n zeroCh))).alloc (rowC (List.replicate n zeroCh))) := by
    rw [← hci] at hia
    rw [← hoi] at hib
    rw [← hcl, ← hol]
    exact St_start hb1 hb2 hia hib
  obtain ⟨W, hW⟩ : ∃ W, W = w2.heap.size + 1 + 1 + 1 := ⟨_, rfl⟩
  obtain ⟨C, hC⟩ : ∃ C, C = w2.heap.size + 1 + 1 := ⟨_, rfl⟩
  obtain ⟨B, hB⟩ : ∃ B, B = w2.heap.size + 1 := ⟨_, rfl⟩
  obtain ⟨A, hA⟩ : ∃ A, A = w2.heap.size := ⟨_, rfl⟩
  rw [← hW, ← hC, ← hB, ← hA] at hS ⊢
  clear hW hC hB hA hia hib
  have HCI : Hid (ci = (za.take la).map id4) := hci
  have HOI : Hid (oi = (zb.take lb).map id4) := hoi
  have HCL : Hid (ci.length = la) := hcl
  have HOL : Hid (oi.length = lb) := hol
  clear hci hoi hcl hol
  go_loopw [56] (fun i wr => ∃ xs : List Ch, xs.length ≤ n ∧ i = .int .i64 xs.length ∧ St w A B C W ra rb ci oi n xs (xs.map (trim ci oi)) wr) (fun i _ => n - (intOf i).toNat)
  case atStart => exact ⟨[], Nat.zero_le _, rfl, hS⟩
  case round =>
    obtain ⟨xs, hxl, rfl, hSt⟩ := hrel
    obtain ⟨i, hi⟩ : ∃ i, i = xs.length := ⟨_, rfl⟩
    rw [← hi] at hxl ⊢
    have HI : Hid (i = xs.length) := hi
    clear hi hS
    by_cases hin : i < n
    · obtain ⟨b, off, rfl, hblt, hcs⟩ := hc (by omega)
      obtain ⟨e0, e1, e2, e3, e4, e5, e6⟩ := hcs i hin
      rw [← hSt.bel.cell (by exact hblt)] at e0 e1 e2 e3 e4 e5 e6
      go_upto_region 14 with fail
      obtain ⟨D, hD⟩ : ∃ D, D = wr.heap.size := ⟨_, rfl⟩
      obtain ⟨wd, hwd⟩ : ∃ wd, wd = wr.alloc (.cells #[.bool (r i).cf, .int .i64 (r i).a1, .int .i64 (r i).a2, .int .i64 (r i).a3, .int .i64 (r i).a4, .int .i64 (r i).a5, .int .i64 (r i).a6] 46) := ⟨_, rfl⟩
      have hSd : St w A B C W ra rb ci oi n xs (xs.map (trim ci oi)) wd := by rw [hwd]; exact hSt.below ((Below.refl _ _).alloc (Nat.le_refl _) _)
      have hDh : wd.heap[D]? = some (.cells #[.bool (r i).cf, .int .i64 (r i).a1, .int .i64 (r i).a2, .int .i64 (r i).a3, .int .i64 (r i).a4, .int .i64 (r i).a5, .int .i64 (r i).a6] 46) := by rw [hwd, hD]; exact heap_alloc_new _ _
      have hDl : D < wd.heap.size := lt_of_some hDh
      have dcell : ∀ f : Nat, wd.cell? ⟨D, f, none⟩ = #[Value.bool (r i).cf, .int .i64 (r i).a1, .int .i64 (r i).a2, .int .i64 (r i).a3, .int .i64 (r i).a4, .int .i64 (r i).a5, .int .i64 (r i).a6][f]? := fun f => cell_of_row wd D f _ 46 (0, 0) hDh
      have d0 : wd.cell? ⟨D, 0, none⟩ = some (.bool (r i).cf) := dcell 0
      have d1 : wd.cell? ⟨D, 1, none⟩ = some (.int .i64 (r i).a1) := dcell 1
      have d2 : wd.cell? ⟨D, 2, none⟩ = some (.int .i64 (r i).a2) := dcell 2
      have d3 : wd.cell? ⟨D, 3, none⟩ = some (.int .i64 (r i).a3) := dcell 3
      have d4 : wd.cell? ⟨D, 4, none⟩ = some (.int .i64 (r i).a4) := dcell 4
      have d5 : wd.cell? ⟨D, 5, none⟩ = some (.int .i64 (r i).a5) := dcell 5
      have d6 : wd.cell? ⟨D, 6, none⟩ = some (.int .i64 (r i).a6) := dcell 6
      rw [← hwd, ← hD]
      clear hwd hD hDh dcell e0 e1 e2 e3 e4 e5 e6 hSt hc hcs hblt hmk ha hb hb1 hb2
      refine part14 w A B C W ra rb ci oi n xs la lb i hla hlb HCL HOL D r wd hSd hDl d0 d1 d2 d3 d4 d5 d6 _ _ ?_
      intro u v15 v56 wc hcut
      obtain ⟨rfl, g, c, rfl, hg, hok, hgC, hgW, hgl, hSc⟩ := hcut
      clear hSd d0 d1 d2 d3 d4 d5 d6 hDl
      obtain ⟨c0, c1, c2, c3, c4, c5, c6, cf⟩ := boxC_cell hg
      have hil : xs.length < n := by have := HI.out; omega
      have hat : (xs ++ List.replicate (n - xs.length) zeroCh)[i]? = some zeroCh := by rw [HI.out]; exact push_at hil
      obtain ⟨r0, r1, r2, r3, r4, r5, r6⟩ := rowC_cell hSc.rc hat
      have f0 := rowC_frozen hSc.rc (i * 7)
      have f1 := rowC_frozen hSc.rc (i * 7 + 1)
      have f2 := rowC_frozen hSc.rc (i * 7 + 2)
      have f3 := rowC_frozen hSc.rc (i * 7 + 3)
      have f4 := rowC_frozen hSc.rc (i * 7 + 4)
      have f5 := rowC_frozen hSc.rc (i * 7 + 5)
      have f6 := rowC_frozen hSc.rc (i * 7 + 6)
      go_upto_region 16 with fail
      obtain ⟨we, hwe⟩ : ∃ we, we = store7 wc C i c := ⟨_, rfl⟩
      have hSe : St w A B C W ra rb ci oi n (xs ++ [c]) (xs.map (trim ci oi)) we := by rw [hwe, HI.out]; exact hSc.pushC hil c hok
      have hge : we.heap[g]? = some (boxC c) := by rw [hwe, store7_other c g hgC]; exact hg
      unfold store7 at hwe
      rw [← hwe]
      clear hwe hSc hg c0 c1 c2 c3 c4 c5 c6 cf r0 r1 r2 r3 r4 r5 r6 f0 f1 f2 f3 f4 f5 f6 hat wc
      obtain ⟨c0, c1, c2, c3, c4, c5, c6, cf⟩ := boxC_cell hge
      have hgel := lt_of_some hge
      go_upto_if 89 with fail
      obtain ⟨E, hE⟩ : ∃ E, E = we.heap.size := ⟨_, rfl⟩
      obtain ⟨wf, hwf⟩ : ∃ wf, wf = we.alloc (boxC c) := ⟨_, rfl⟩
      have hbf : Below we.heap.size we wf := by rw [hwf]; exact (Below.refl _ _).alloc (Nat.le_refl _) _
      have hSf := hSe.below hbf
      have hgf : wf.heap[g]? = some (boxC c) := (hbf.block g hgel).trans hge
      have hEf : wf.heap[E]? = some (boxC c) := by rw [hwf, hE]; exact heap_alloc_new _ _
      have hEC : E ≠ C := by have := lt_of_some hSe.rc; omega
      have hEW : E ≠ W := by have := lt_of_some hSe.rw; omega
      have hEl : w.heap.size ≤ E := by have := hSe.bel.size; omega
      unfold boxC at hwf
      rw [← hwf, ← hE]
      clear hwf hE c0 c1 c2 c3 c4 c5 c6 cf hSe hge hbf hgel we
      go_cut [56] from 56 to 196 (fun v56 wc => v56 = .int .i64 i ∧ wc.heap[E]? = some (boxC (trim ci oi c)) ∧ St w A B C W ra rb ci oi n (xs ++ [c]) (xs.map (trim ci oi)) wc)
      case first =>
        cases hcf : c.cf with
        | false =>
          have ht : trim ci oi c = c := by unfold trim; simp [hcf]
          have HT : Hid (trim ci oi c = c) := ht
          clear ht
          go_wp2
          go_meet
          exact ⟨rfl, by rw [HT.out]; exact hEf, hSf⟩
        | true =>
          obtain ⟨c0, c1, c2, c3, c4, c5, c6, cfz⟩ := boxC_cell hgf
          obtain ⟨m0, m1, m2, m3, m4, m5, m6, mz⟩ := boxC_cell hEf
          obtain ⟨k1, k2, k3, k4⟩ := hok
          rw [HCL.out] at k2
          rw [HOL.out] at k4
          have z1 := mz 1
          have z2 := mz 2
          have z5 := mz 5
          have z6 := mz 6
          have hpw : pfx ci oi c ≤ width c := lcp_le _ _
          have hsw : sfx ci oi c ≤ width c - pfx ci oi c := lcp_le _ _
          have hw1 : width c ≤ c.ch - c.cl := Nat.min_le_left _ _
          have hw2 : width c ≤ c.oh - c.ol := Nat.min_le_right _ _
          go_upto_block 2 with fail
          refine part2 w A B C W ra rb ci oi n xs la lb i hla hlb HCL HOL g c wf hSf c0 c1 c2 c5 c6 k1 k2 k3 k4 hw1 hw2 _ _ ?_
          intro u2 v2 v562 wc hcut
          obtain ⟨rfl, rfl, k0, rfl⟩ := hcut
          obtain ⟨p, hp⟩ : ∃ p, p = pfx ci oi c := ⟨_, rfl⟩
          have HP : Hid (p = pfx ci oi c) := hp
          have hs1 : sfx ci oi c ≤ c.ch := by omega
          have hs2 : sfx ci oi c ≤ c.oh := by omega
          have HS2 : Hid (sfx ci oi c = lcp (sameR ci oi c.ch c.oh) (width c - p)) := by rw [hp]; rfl
          rw [← hp] at hpw hsw ⊢
          clear hp
          go_upto_block 4 with fail
          refine part4 w A B C W ra rb ci oi n xs la lb i hla hlb HCL HOL g c wf hSf c0 c1 c2 c5 c6 k1 k2 k3 k4 hw1 hw2 p k0 hpw HS2 _ _ ?_
          intro u4 v4 v564 wc hcut
          obtain ⟨rfl, rfl, k1', rfl⟩ := hcut
          go_wp2
          go_meet
          refine ⟨rfl, ?_, ?_⟩
          · have := boxC_trim (ci := ci) (oi := oi) (w := wf.drewN k1') hEf hcf hs1 hs2
            rw [← HP.out] at this
            exact this
          · exact St.box4 (hSf.below (h' := wf.drewN k1') ⟨rfl, rfl, rfl, Nat.le_refl _, fun _ _ => rfl⟩) (c := c) hEf hEC hEW hEl
      case rest =>
        obtain ⟨rfl, hE2, hS2⟩ := hcut
        clear hSf hgf hEf hgC hgW hgl hok
        obtain ⟨t, ht⟩ : ∃ t, t = trim ci oi c := ⟨_, rfl⟩
        have HT : Hid (t = trim ci oi c) := ht
        rw [← ht] at hE2
        clear ht
        obtain ⟨c0, c1, c2, c3, c4, c5, c6, cfz⟩ := boxC_cell hE2
        have hyl : (xs.map (trim ci oi)).length = i := by rw [List.length_map]; exact HI.out.symm
        have hat : (xs.map (trim ci oi) ++ List.replicate (n - (xs.map (trim ci oi)).length) zeroCh)[i]? = some zeroCh := by
          have := push_at (xs := xs.map (trim ci oi)) (n := n) (by omega)
          rwa [hyl] at this ⊢
        obtain ⟨r0, r1, r2, r3, r4, r5, r6⟩ := rowC_cell hS2.rw hat
        have f0 := rowC_frozen hS2.rw (i * 7)
        have f1 := rowC_frozen hS2.rw (i * 7 + 1)
        have f2 := rowC_frozen hS2.rw (i * 7 + 2)
        have f3 := rowC_frozen hS2.rw (i * 7 + 3)
        have f4 := rowC_frozen hS2.rw (i * 7 + 4)
        have f5 := rowC_frozen hS2.rw (i * 7 + 5)
        have f6 := rowC_frozen hS2.rw (i * 7 + 6)
        have HY : Hid ((xs.map (trim ci oi)).length = i) := hyl
        clear hyl hat
        go_wp2
        go_roundw
        case rel =>
          refine ⟨xs ++ [c], by simp; omega, by rw [List.length_append, ← HI.out]; go_num, ?_⟩
          have := hS2.pushW (by rw [HY.out]; exact hin) t
          rw [HY.out] at this
          rw [List.map_append, List.map_singleton, ← HT.out]
          exact this
        case measure => simp [intOf]; omega
    · obtain rfl : i = n := by omega
      have hML : Mem wr.heap C A B ra rb ci oi xs := by
        refine ⟨?_, hSt.ta, hSt.tb, hSt.ia, hSt.ib⟩
        have := hSt.rc
        rwa [← HI.out, Nat.sub_self, List.replicate_zero, List.append_nil] at this
      have hW0 : wr.heap[W]? = some (rowC (xs.map (trim ci oi))) := by
        have := hSt.rw
        rwa [List.length_map, ← HI.out, Nat.sub_self, List.replicate_zero, List.append_nil] at this
      have hnil1 := fun wx l c => Lib.run_eql_slice_nil (P := Yba.prog) wx 44 51 (some ⟨C, 0, none⟩) l c 0 0 Yba.underlying44
      have hnil2 := fun wx l c => Lib.run_eql_slice_nil (P := Yba.prog) wx 39 46 (some x) l c 0 0 Yba.underlying39
      clear hmk
      go_wp2_with fail
      refine (trim_some C A B ra rb ci oi xs i _ hn HI.out.symm (by rw [HCL.out]; exact hla) (by rw [HOL.out]; exact hlb) hSt.ok hML).mono ?_
      rintro e w3 ⟨rfl, hM3, hg3⟩
      have hW3 : w3.heap[W]? = some (rowC (xs.map (trim ci oi))) := (hg3.block W (lt_of_some hW0) (by have := hSt.ne; simp; omega)).trans hW0
      have hT3 : Tl w A B ra rb la lb ci oi w3 := by
        refine ⟨by rw [← HCL.out]; exact hM3.ta, by rw [← HOL.out]; exact hM3.tb, hM3.ia, hM3.ib, ?_⟩
        have hlo := hSt.loC
        exact hSt.bel.trans ⟨hg3.os, hg3.tape, hg3.output, hg3.size, fun k hk => hg3.block k (by have := hSt.bel.size; omega) (by simp; omega)⟩
      have hR3 := hM3.row
      clear hM3 hg3 hW0 hML hSt
      have hpp := neq_ptr C
      go_upto_region 33 with fail
      go_cut [222] (fun v wc => v = .bool false ∧ ∃ k, wc = w3.drewN k)
      case first =>
        by_cases hi0 : 0 < i
        · go_quiet (fail)
          go_wp2
          go_meet
          exact ⟨rfl, _, rfl⟩
        · have hf0 : decide ((0 : Int) < (i : Int)) = false := by simp; omega
          go_quiet (fail)
          go_wp2
          go_meet
          exact ⟨rfl, _, rfl⟩
      case rest =>
        obtain ⟨rfl, k3, rfl⟩ := hcut
        clear hnil1 hnil2 hpp
        go_upto_block 6 with fail
        refine part6 C W ci oi xs i hn HI w3 k3 hR3 hW3 _ _ ?_
        intro u6 v22 wc hcut
        obtain ⟨k4, rfl⟩ := hcut
        have hT4 := hT3.drewN k4
        obtain ⟨w4, hw4⟩ : ∃ w4, w4 = w3.drewN k4 := ⟨_, rfl⟩
        rw [← hw4] at hT4 ⊢
        clear hw4 hT3 hR3 hW3
        go_upto_region 41 with fail
        refine part41 w A B sa sb ra rb la ca lb cb za zb ci oi hla hlb ha hb HCI HOI HCL HOL w4 hT4 _ _ ?_
        intro u41 v266 wc hcut
        obtain ⟨rfl, hT8⟩ := hcut
        obtain ⟨p0, p1⟩ := boxT_nils hT8.ta
        obtain ⟨p2, p3⟩ := boxT_nils hT8.tb
        go_wp2
        go_ret
        exact ⟨rfl, hT8.bel⟩
end Go.Proofs.Ybulkdwba.lawC

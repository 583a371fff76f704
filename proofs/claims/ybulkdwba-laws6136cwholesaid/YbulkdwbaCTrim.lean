/-
  FOR 'Rows.LawS6136CWholeSaid': trimConflicts: its contract.
-/
import Derived.Test.YbulkdwbaCIds
import Derived.Test.YbulkdwbaCPlain
import Derived.Deep.LoopGhost
import Derived.Deep.CutBlock
import Derived.Deep.CutRange
namespace Go.Proofs.Ybulkdwba.lawC
open Go.ChangeShapes Go.WideShapes Go.ChangeAt Go.RowKit Go.Deep
set_option linter.unusedVariables false

/-- A row of changes: the block's object. -/
def rowC (cs : List Ch) : Obj := .cells (flat cs).toArray 51
/-- A 'text' whose ids are v: the block's object. -/
def boxT (v : Value) : Obj := .cells #[.slice none 0 0, .slice none 0 0, v, .int .i64 0, .int .i64 0] 43

theorem rowC_cell {w : World} {g : Nat} {cs : List Ch} (h : w.heap[g]? = some (rowC cs)) {j : Nat} {c : Ch} (hj : cs[j]? = some c) :
    w.cell? ⟨g, j * 7, none⟩ = some (.bool c.cf) ∧ w.cell? ⟨g, j * 7 + 1, none⟩ = some (.int .i64 c.cl) ∧ w.cell? ⟨g, j * 7 + 1 + 1, none⟩ = some (.int .i64 c.ch) ∧ w.cell? ⟨g, j * 7 + 3, none⟩ = some (.int .i64 c.bl) ∧
    w.cell? ⟨g, j * 7 + 3 + 1, none⟩ = some (.int .i64 c.bh) ∧ w.cell? ⟨g, j * 7 + 5, none⟩ = some (.int .i64 c.ol) ∧ w.cell? ⟨g, j * 7 + 5 + 1, none⟩ = some (.int .i64 c.oh) := by
  have e : ∀ f, f < 7 → w.cell? ⟨g, j * 7 + f, none⟩ = c.cells[f]? := by
    intro f hf
    unfold rowC at h
    rw [cell_of_row w g (j * 7 + f) _ 51 (0, 0) h, ← flat_at cs j f c hj hf]; simp
  exact ⟨e 0 (by omega), e 1 (by omega), e 2 (by omega), e 3 (by omega), e 4 (by omega), e 5 (by omega), e 6 (by omega)⟩
theorem rowC_frozen {w : World} {g : Nat} {cs : List Ch} (h : w.heap[g]? = some (rowC cs)) (j : Nat) : w.frozen? ⟨g, j, none⟩ = false := frozen_of_row w g j _ 51 h
theorem rowC_set {w : World} {g : Nat} {cs : List Ch} (h : w.heap[g]? = some (rowC cs)) {j f : Nat} {c : Ch} (hj : cs[j]? = some c) (hf : f < 7) (d : Ch) (v : Value) (e : c.cells.set f v = d.cells) :
    (w.setCell ⟨g, j * 7 + f, none⟩ v).heap[g]? = some (rowC (cs.set j d)) := by
  unfold rowC at h ⊢
  rw [heap_setCell_same w g (j * 7 + f) _ 51 _ h, ← flat_set cs j f c d v hj hf e]
  congr 2
  apply Array.toList_inj.1
  simp
theorem boxT_cell {w : World} {g : Nat} {v : Value} (h : w.heap[g]? = some (boxT v)) : w.cell? ⟨g, 2, none⟩ = some v := by
  unfold boxT at h
  rw [cell_of_row w g 2 _ 43 (0, 0) h]; rfl

/-- An ids value: nil or a row of its own. -/
def IdsAt (h : Array Obj) (a : Option Addr) (zs : List Int) : Prop := 0 < zs.length → ∃ g, a = some ⟨g, 0, none⟩ ∧ h[g]? = some (rowI zs)

/-- The memory that trimConflicts reads and writes: the changes in block C, the two texts in blocks A, B, their ids. -/
structure Mem (h : Array Obj) (C A B : Nat) (sa sb : Option Addr) (ci oi : List Int) (cs : List Ch) : Prop where
  row : h[C]? = some (rowC cs)
  ta : h[A]? = some (boxT (.slice sa ci.length ci.length))
  tb : h[B]? = some (boxT (.slice sb oi.length oi.length))
  ia : IdsAt h sa ci
  ib : IdsAt h sb oi

theorem boxT_ne {v : Value} {cs : List Ch} : boxT v ≠ rowC cs := by unfold boxT rowC; intro h; simp at h
theorem rowI_ne {zs : List Int} {cs : List Ch} : rowI zs ≠ rowC cs := by unfold rowI rowC; intro h; simp at h

theorem Mem.set {w : World} {C A B : Nat} {sa sb : Option Addr} {ci oi : List Int} {cs : List Ch} (m : Mem w.heap C A B sa sb ci oi cs) {j f : Nat} {c : Ch} (hj : cs[j]? = some c) (hf : f < 7) (d : Ch) (v : Value) (e : c.cells.set f v = d.cells) :
    Mem (w.setCell ⟨C, j * 7 + f, none⟩ v).heap C A B sa sb ci oi (cs.set j d) := by
  have keep : ∀ (g : Nat) (o : Obj), o ≠ rowC cs → w.heap[g]? = some o → (w.setCell ⟨C, j * 7 + f, none⟩ v).heap[g]? = some o := by
    intro g o ho hg
    rw [heap_setCell_other _ _ _ _ ?_]
    · exact hg
    · intro hgc
      have hgc : g = C := hgc
      rw [hgc, m.row] at hg
      exact ho (by simpa using hg.symm)
  refine ⟨rowC_set m.row hj hf d v e, keep _ _ boxT_ne m.ta, keep _ _ boxT_ne m.tb, ?_, ?_⟩
  · intro hp; obtain ⟨g, e1, e2⟩ := m.ia hp; exact ⟨g, e1, keep _ _ rowI_ne e2⟩
  · intro hp; obtain ⟨g, e1, e2⟩ := m.ib hp; exact ⟨g, e1, keep _ _ rowI_ne e2⟩

/-- Trimming under way: q lines off the front (and, r off the back). -/
def cut (c : Ch) (q r : Nat) : Ch := { c with cl := c.cl + q, ol := c.ol + q, ch := c.ch - r, oh := c.oh - r }

theorem set_at {ds : List Ch} {j : Nat} (h : j < ds.length) (d : Ch) : (ds.set j d)[j]? = some d := by simp [h]

/-- One line off the front. -/
theorem Mem.front {w : World} {C A B : Nat} {sa sb : Option Addr} {ci oi : List Int} {ds : List Ch} {j : Nat} {d : Ch} (hj : j < ds.length) (m : Mem w.heap C A B sa sb ci oi (ds.set j d)) :
    Mem ((w.setCell ⟨C, j * 7 + 1, none⟩ (.int .i64 (↑d.cl + 1))).setCell ⟨C, j * 7 + 5, none⟩ (.int .i64 (↑d.ol + 1))).heap C A B sa sb ci oi (ds.set j { d with cl := d.cl + 1, ol := d.ol + 1 }) := by
  have h1 := m.set (set_at hj d) (f := 1) (by omega) { d with cl := d.cl + 1 } (.int .i64 (↑d.cl + 1)) (by simp [Ch.cells])
  rw [List.set_set] at h1
  have h2 := h1.set (set_at hj _) (f := 5) (by omega) { d with cl := d.cl + 1, ol := d.ol + 1 } (.int .i64 (↑d.ol + 1)) (by simp [Ch.cells])
  rw [List.set_set] at h2
  exact h2
theorem Mem.back {w : World} {C A B : Nat} {sa sb : Option Addr} {ci oi : List Int} {ds : List Ch} {j : Nat} {d : Ch} (hj : j < ds.length) (h1 : 1 ≤ d.ch) (h2 : 1 ≤ d.oh) (m : Mem w.heap C A B sa sb ci oi (ds.set j d)) :
    Mem ((w.setCell ⟨C, j * 7 + 1 + 1, none⟩ (.int .i64 (↑d.ch - 1))).setCell ⟨C, j * 7 + 5 + 1, none⟩ (.int .i64 (↑d.oh - 1))).heap C A B sa sb ci oi (ds.set j { d with ch := d.ch - 1, oh := d.oh - 1 }) := by
  have e1 : (d.ch : Int) - 1 = ((d.ch - 1 : Nat) : Int) := by omega
  have e2 : (d.oh : Int) - 1 = ((d.oh - 1 : Nat) : Int) := by omega
  rw [e1, e2]
  have h1 := m.set (set_at hj d) (f := 2) (by omega) { d with ch := d.ch - 1 } (.int .i64 ((d.ch - 1 : Nat) : Int)) (by simp [Ch.cells])
  rw [List.set_set] at h1
  have h2 := h1.set (set_at hj _) (f := 6) (by omega) { d with ch := d.ch - 1, oh := d.oh - 1 } (.int .i64 ((d.oh - 1 : Nat) : Int)) (by simp [Ch.cells])
  rw [List.set_set] at h2
  exact h2
theorem grown_two {w wr : World} {C : Nat} (h : w.grownBy wr (some C)) (o1 o2 : Nat) (u1 u2 : Value) : w.grownBy ((wr.setCell ⟨C, o1, none⟩ u1).setCell ⟨C, o2, none⟩ u2) (some C) :=
  ⟨h.os, h.tape, h.output, by simpa using h.size, fun k hk hne => by
    rw [heap_setCell_other _ _ _ _ (fun e => hne (by rw [show k = C from e])), heap_setCell_other _ _ _ _ (fun e => hne (by rw [show k = C from e]))]; exact h.block k hk hne⟩

theorem grown_drewN {w wr : World} {r : Option Nat} (h : w.grownBy wr r) (q : Nat) : w.grownBy (wr.drewN q) r := ⟨h.os, h.tape, h.output, h.size, h.block⟩

set_option maxRecDepth 100000 in
set_option maxHeartbeats 4000000 in
theorem trim_some (C A B : Nat) (sa sb : Option Addr) (ci oi : List Int) (cs : List Ch) (n : Nat) (w : World) (hn : n ≤ 1024) (hcl : cs.length = n) (hci : ci.length ≤ 16384) (hoi : oi.length ≤ 16384)
    (hok : ∀ c ∈ cs, c.ok ci.length oi.length) (hm : Mem w.heap C A B sa sb ci oi cs) :
    Calls Yba.prog 14 #[.slice (some ⟨C, 0, none⟩) n n, .pointer (some ⟨A, 0, none⟩), .pointer (some ⟨B, 0, none⟩)] w fun e w' =>
      e = .returned (.slice (some ⟨C, 0, none⟩) n n) ∧ Mem w'.heap C A B sa sb ci oi (cs.map (trim ci oi)) ∧ w.grownBy w' (some C) := by
  go_enter Yba.func14, Yba.ntmps14
  go_wp2
  go_loopw [11] (fun i wr => ∃ j : Nat, j ≤ n ∧ i = .int .i64 j ∧ Mem wr.heap C A B sa sb ci oi (mix (trim ci oi) cs j) ∧ w.grownBy wr (some C)) (fun i _ => n - (intOf i).toNat)
  case atStart => exact ⟨0, Nat.zero_le _, rfl, by rw [mix_zero]; exact hm, World.grownBy.refl _ _⟩
  case round =>
    obtain ⟨j, hj, rfl, hM, hg⟩ := hrel
    by_cases hjl : j < n
    · have hjc : j < cs.length := by omega
      have hat := mix_at (trim ci oi) cs j hjc
      have hset := mix_set (trim ci oi) cs j hjc
      have hokj := hok _ (List.getElem_mem hjc)
      obtain ⟨c, hce⟩ : ∃ c, c = cs[j] := ⟨_, rfl⟩
      obtain ⟨ds, hds⟩ : ∃ ds, ds = mix (trim ci oi) cs j := ⟨_, rfl⟩
      have hdl : ds.length = cs.length := by rw [hds]; exact mix_len _ _ _
      rw [← hce] at hat hset hokj
      rw [← hds] at hat hset hM
      have HS : Hid (ds.set j (trim ci oi c) = mix (trim ci oi) cs (j + 1)) := hset
      clear hset hce hds hdl
      obtain ⟨c0, c1, c2, c3, c4, c5, c6⟩ := rowC_cell hM.row hat
      cases hcf : c.cf with
      | false =>
        rw [hcf] at c0
        have ht : trim ci oi c = c := by unfold trim; simp [hcf]
        have hs2 : ds.set j c = ds := by
          apply List.ext_getElem?; intro i; rw [List.getElem?_set]; split
          · rename_i h; subst h; split
            · exact hat.symm
            · rename_i h; rw [List.getElem?_eq_none (by omega)]
          · rfl
        have HM : Hid (ds = mix (trim ci oi) cs (j + 1)) := by rw [← HS.out, ht, hs2]; rfl
        clear ht hs2 HS
        go_wp2
        go_roundw
        case rel => exact ⟨j + 1, by omega, by go_num, by rw [← HM.out]; exact hM, hg⟩
        case measure => simp [intOf]; omega
      | true =>
        rw [hcf] at c0
        go_upto_block 2 with fail
        go_cut [11] from 11 to 158 (fun v wc => v = .int .i64 j ∧ Mem wc.heap C A B sa sb ci oi (ds.set j (cut c (pfx ci oi c) 0)) ∧ w.grownBy wc (some C))
        case first =>
          have hdl : j < ds.length := (List.getElem?_eq_some_iff.1 hat).1
          have hs0 : ds.set j (cut c 0 0) = ds := by
            apply List.ext_getElem?; intro i; rw [List.getElem?_set]; split
            · rename_i h; subst h; exact hat.symm
            · rfl
          obtain ⟨k1, k2, k3, k4⟩ := hokj
          go_wp2_with fail
          go_loopg [] (width c) (fun g wx => ∃ q, q + g = width c ∧ (∀ i, i < q → same ci oi c.cl c.ol i = true) ∧ Mem wx.heap C A B sa sb ci oi (ds.set j (cut c q 0)) ∧ w.grownBy wx (some C))
          case atStart => exact ⟨0, by omega, fun i hi => absurd hi (by omega), by rw [hs0]; exact hM, hg⟩
          case round =>
            clear c0 c1 c2 c3 c4 c5 c6 hM hg hs0
            obtain ⟨q, hqg, hsame, hM, hg⟩ := hrel
            have hqw : q ≤ width c := by omega
            have hend : ∀ b : Bool, (q < width c → same ci oi c.cl c.ol q = false) → q = pfx ci oi c := fun _ h => (lcp_eq _ _ q hqw hsame h).symm
            have hw1 : width c ≤ c.ch - c.cl := Nat.min_le_left _ _
            have hw2 : width c ≤ c.oh - c.ol := Nat.min_le_right _ _
            have hw3 : c.cl + q < c.ch → c.ol + q < c.oh → q < width c := fun h1 h2 => by unfold width; omega
            have HD : Hid ((cut c q 0).cl = c.cl + q ∧ (cut c q 0).ol = c.ol + q ∧ (cut c q 0).ch = c.ch ∧ (cut c q 0).oh = c.oh) := ⟨rfl, rfl, rfl, rfl⟩
            obtain ⟨d, hd⟩ : ∃ d, d = cut c q 0 := ⟨_, rfl⟩
            rw [← hd] at hM HD
            have hb1 : d.cl ≤ 16384 := by have := HD.out; omega
            have hb2 : d.ol ≤ 16384 := by have := HD.out; omega
            have hb3 : d.ch ≤ ci.length := by have := HD.out; omega
            have hb4 : d.oh ≤ oi.length := by have := HD.out; omega
            have HQ : Hid (d = cut c q 0) := hd
            clear hd
            obtain ⟨c0, c1, c2, c3, c4, c5, c6⟩ := rowC_cell hM.row (set_at hdl d)
            have tA := boxT_cell hM.ta
            have tB := boxT_cell hM.tb
            have f1 := rowC_frozen hM.row (j * 7 + 1)
            have f5 := rowC_frozen hM.row (j * 7 + 5)
            by_cases h1 : d.cl < d.ch
            · by_cases h2 : d.ol < d.oh
              · obtain ⟨ga, rfl, hga⟩ := hM.ia (by omega)
                obtain ⟨gb, rfl, hgb⟩ := hM.ib (by omega)
                have i1 := rowI_cell hga d.cl (by omega)
                have i2 := rowI_cell hgb d.ol (by omega)
                cases heq : ((ci[d.cl]?.getD 0) == (oi[d.ol]?.getD 0)) with
                | true =>
                  go_wp2_with fail
                  go_quiet (fail)
                  go_wp2
                  go_roundg (width c - (q + 1))
                  case measure => have := HD.out; omega
                  case rel =>
                    refine ⟨q + 1, by have := hw3 (by have := HD.out; omega) (by have := HD.out; omega); omega, ?_, ?_, ?_⟩
                    · intro i hi
                      by_cases e : i = q
                      · subst e; obtain ⟨e1, e2, _⟩ := HD.out; unfold same; rw [← e1, ← e2]; exact heq
                      · exact hsame i (by omega)
                    · have := Mem.front (w := wr.drewN nq) hdl hM
                      have e : cut c (q + 1) 0 = { d with cl := d.cl + 1, ol := d.ol + 1 } := by rw [HQ.out]; rfl
                      rw [e]
                      exact this
                    · exact grown_two (grown_drewN hg _) _ _ _ _
                | false =>
                  go_wp2_with fail
                  go_quiet (fail)
                  go_wp2
                  go_meet
                  exact ⟨rfl, by rw [← hend true (fun _ => by obtain ⟨e1, e2, _⟩ := HD.out; unfold same; rw [← e1, ← e2]; exact heq), ← HQ.out]; exact hM, grown_drewN hg _⟩
              · have hf2 : decide ((d.ol : Int) < (d.oh : Int)) = false := by simpa using h2
                go_wp2_with fail
                go_quiet (fail)
                go_wp2
                go_meet
                exact ⟨rfl, by rw [← hend true (fun h => by have := HD.out; omega), ← HQ.out]; exact hM, grown_drewN hg _⟩
            · have hf1 : decide ((d.cl : Int) < (d.ch : Int)) = false := by simpa using h1
              go_wp2_with fail
              go_quiet (fail)
              go_wp2
              go_meet
              exact ⟨rfl, by rw [← hend true (fun h => by have := HD.out; omega), ← HQ.out]; exact hM, grown_drewN hg _⟩
        case rest =>
          obtain ⟨rfl, hM1, hg1⟩ := hcut
          clear c0 c1 c2 c3 c4 c5 c6 hM hg
          have hdl : j < ds.length := (List.getElem?_eq_some_iff.1 hat).1
          obtain ⟨k1, k2, k3, k4⟩ := hokj
          have hpw : pfx ci oi c ≤ width c := lcp_le _ _
          have hw1 : width c ≤ c.ch - c.cl := Nat.min_le_left _ _
          have hw2 : width c ≤ c.oh - c.ol := Nat.min_le_right _ _
          have HT : Hid (∀ r, r = sfx ci oi c → ds.set j (cut c (pfx ci oi c) r) = mix (trim ci oi) cs (j + 1)) := by
            intro r hr
            rw [← HS.out, hr]; congr 1; unfold trim; rw [if_pos hcf]; rfl
          obtain ⟨p, hp⟩ : ∃ p, p = pfx ci oi c := ⟨_, rfl⟩
          have HS2 : Hid (sfx ci oi c = lcp (sameR ci oi c.ch c.oh) (width c - p)) := by rw [hp]; rfl
          rw [← hp] at hM1 hpw HT
          clear hp HS hat hm
          go_wp2_with fail
          go_loopg [] (width c - p) (fun g wx => ∃ r, r + g = width c - p ∧ (∀ i, i < r → sameR ci oi c.ch c.oh i = true) ∧ Mem wx.heap C A B sa sb ci oi (ds.set j (cut c p r)) ∧ w.grownBy wx (some C))
          case atStart => exact ⟨0, by omega, fun i hi => absurd hi (by omega), hM1, hg1⟩
          case round =>
            clear hM1 hg1
            obtain ⟨r, hqg, hsame, hM, hg⟩ := hrel
            have hqw : r ≤ width c - p := by omega
            have hend : ∀ b : Bool, (r < width c - p → sameR ci oi c.ch c.oh r = false) → r = sfx ci oi c := fun _ h => by rw [HS2.out]; exact (lcp_eq _ _ r hqw hsame h).symm
            have hw3 : c.cl + p < c.ch - r → c.ol + p < c.oh - r → r < width c - p := fun h1 h2 => by unfold width; omega
            have HD : Hid ((cut c p r).cl = c.cl + p ∧ (cut c p r).ol = c.ol + p ∧ (cut c p r).ch = c.ch - r ∧ (cut c p r).oh = c.oh - r) := ⟨rfl, rfl, rfl, rfl⟩
            obtain ⟨d, hd⟩ : ∃ d, d = cut c p r := ⟨_, rfl⟩
            rw [← hd] at hM HD
            have hb1 : d.cl ≤ 16384 := by have := HD.out; omega
            have hb2 : d.ol ≤ 16384 := by have := HD.out; omega
            have hb3 : d.ch ≤ ci.length := by have := HD.out; omega
            have hb4 : d.oh ≤ oi.length := by have := HD.out; omega
            have HQ : Hid (d = cut c p r) := hd
            clear hd
            obtain ⟨c0, c1, c2, c3, c4, c5, c6⟩ := rowC_cell hM.row (set_at hdl d)
            have tA := boxT_cell hM.ta
            have tB := boxT_cell hM.tb
            have f1 := rowC_frozen hM.row (j * 7 + 1 + 1)
            have f5 := rowC_frozen hM.row (j * 7 + 5 + 1)
            by_cases h1 : d.cl < d.ch
            · by_cases h2 : d.ol < d.oh
              · obtain ⟨ga, rfl, hga⟩ := hM.ia (by omega)
                obtain ⟨gb, rfl, hgb⟩ := hM.ib (by omega)
                have i1 := rowI_cell hga (d.ch - 1) (by omega)
                have i2 := rowI_cell hgb (d.oh - 1) (by omega)
                cases heq : ((ci[d.ch - 1]?.getD 0) == (oi[d.oh - 1]?.getD 0)) with
                | true =>
                  go_wp2_with fail
                  go_quiet (fail)
                  go_wp2
                  go_roundg (width c - p - (r + 1))
                  case measure => have := HD.out; omega
                  case rel =>
                    refine ⟨r + 1, by have := hw3 (by have := HD.out; omega) (by have := HD.out; omega); omega, ?_, ?_, ?_⟩
                    · intro i hi
                      by_cases e : i = r
                      · subst e; obtain ⟨_, _, e1, e2⟩ := HD.out; unfold sameR; rw [show c.ch - 1 - i = d.ch - 1 by omega, show c.oh - 1 - i = d.oh - 1 by omega]; exact heq
                      · exact hsame i (by omega)
                    · have := Mem.back (w := wr.drewN nq) hdl (by omega) (by omega) hM
                      have e : cut c p (r + 1) = { d with ch := d.ch - 1, oh := d.oh - 1 } := by rw [HQ.out]; rfl
                      rw [e]
                      exact this
                    · exact grown_two (grown_drewN hg _) _ _ _ _
                | false =>
                  go_wp2_with fail
                  go_quiet (fail)
                  go_wp2
                  go_roundw
                  case rel =>
                    refine ⟨j + 1, by omega, by go_num, ?_, grown_drewN hg _⟩
                    rw [← HT.out r (hend true (fun _ => by obtain ⟨_, _, e1, e2⟩ := HD.out; unfold sameR; rw [show c.ch - 1 - r = d.ch - 1 by omega, show c.oh - 1 - r = d.oh - 1 by omega]; exact heq)), ← HQ.out]; exact hM
                  case measure => simp [intOf]; omega
              · have hf2 : decide ((d.ol : Int) < (d.oh : Int)) = false := by simpa using h2
                go_wp2_with fail
                go_quiet (fail)
                go_wp2
                go_roundw
                case rel =>
                  refine ⟨j + 1, by omega, by go_num, ?_, grown_drewN hg _⟩
                  rw [← HT.out r (hend true (fun h => by have := HD.out; omega)), ← HQ.out]; exact hM
                case measure => simp [intOf]; omega
            · have hf1 : decide ((d.cl : Int) < (d.ch : Int)) = false := by simpa using h1
              go_wp2_with fail
              go_quiet (fail)
              go_wp2
              go_roundw
              case rel =>
                refine ⟨j + 1, by omega, by go_num, ?_, grown_drewN hg _⟩
                rw [← HT.out r (hend true (fun h => by have := HD.out; omega)), ← HQ.out]; exact hM
              case measure => simp [intOf]; omega
    · obtain rfl : j = n := by omega
      go_wp2
      go_ret
      exact ⟨rfl, by rw [← mix_full _ cs j (by omega)]; exact hM, hg⟩
end Go.Proofs.Ybulkdwba.lawC

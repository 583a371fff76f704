/-
  FOR 'Rows.LawS6136BShortestSaid': zzs6136blcs: its contract.
-/
import Derived.Test.YbulkdwbaBIndex
namespace Go.Proofs.Ybulkdwba.lawB
open Go.ChangeShapes Go.WideShapes Go.ChangeAt Go.RowKit Go.Deep Go.Maps
open lawC (rowI rowI_cell rowI_frozen rowI_set made_rowI info3)
set_option linter.unusedVariables false

/-- Row i of the table, as far as its first t numbers. -/
def Rw (f g : Nat → Int) (m i t : Nat) (zs : List Int) : Prop := zs.length = m + 1 ∧ ∀ j, j < t → zs[j]?.getD 0 = (L f g i j : Int)
theorem Rw.set {f g : Nat → Int} {m i t : Nat} {zs : List Int} (h : Rw f g m i t zs) (ht : t ≤ m) {x : Int} (hx : x = (L f g i t : Int)) : Rw f g m i (t + 1) (zs.set t x) := by
  refine ⟨by rw [List.length_set]; exact h.1, fun j hj => ?_⟩
  by_cases e : j = t
  · subst e; rw [List.getElem?_set_self (by rw [h.1]; omega)]; exact hx
  · rw [List.getElem?_set_ne (by omega)]; exact h.2 j (by omega)
theorem make_ints (m : Nat) (hm : m ≤ 100000) (wx : World) : (Instr.makeSlice 25 (.int .i64 (m : Int)) (.int .i64 (m : Int))).run Yba.prog wx = .ok (.slice (some ⟨wx.heap.size, 0, none⟩) m m) (wx.alloc (rowI (List.replicate m 0))) := by
  have h := run_make_row' (P := Yba.prog) 25 3 (.int .i64 0) 8 Yba.underlying25 info3 rfl .i64 .i64 m (by omega) (by omega) wx
  rw [h]
  have : Obj.cells (madeCells #[Value.int .i64 0] m) 3 = rowI (List.replicate m 0) := made_rowI m
  rw [this]
structure LcsI (w : World) (f g : Nat → Int) (m i : Nat) (pb cb : Nat) (pz cz : List Int) (t : Nat) (h : World) : Prop where
  hp : h.heap[pb]? = some (rowI pz)
  hc : h.heap[cb]? = some (rowI cz)
  rp : Rw f g m i (m + 1) pz
  rc : Rw f g m (i + 1) t cz
  ne : pb ≠ cb
  b1 : w.heap.size ≤ pb
  b2 : w.heap.size ≤ cb
  bel : Below w.heap.size w h
theorem LcsI.put {w : World} {f g : Nat → Int} {m i pb cb : Nat} {pz cz : List Int} {t : Nat} {h : World} (s : LcsI w f g m i pb cb pz cz t h) (ht : t ≤ m) {x : Int} (hx : x = (L f g (i + 1) t : Int)) (k : Nat) : LcsI w f g m i pb cb pz (cz.set t x) (t + 1) ((h.drewN k).setCell ⟨cb, t, none⟩ (.int .i64 x)) :=
  ⟨(heap_setCell_other _ _ _ _ (by exact s.ne)).trans s.hp, rowI_set (w := h.drewN k) s.hc t x, s.rp, s.rc.set ht hx, s.ne, s.b1, s.b2, (below_drewN s.bel k).setCell s.b2 _⟩
theorem L_le' (f g : Nat → Int) (i j : Nat) : L f g i j ≤ i := L_le f g i j

set_option maxRecDepth 100000 in
set_option maxHeartbeats 2000000 in
theorem lcs_any (A xo n cX B yo m cY : Nat) (za zb : List Int) (w : World) (hn : n ≤ 4096) (hm : m ≤ 4096) (hx : xo + n ≤ za.length) (hy : yo + m ≤ zb.length) (hA : w.heap[A]? = some (rowI za)) (hB : w.heap[B]? = some (rowI zb)) :
    Calls Yba.prog 11 #[.slice (some ⟨A, xo, none⟩) n cX, .slice (some ⟨B, yo, none⟩) m cY] w fun e w' => e = .returned (.int .i64 (L (lin za xo) (lin zb yo) n m : Nat)) ∧ Below w.heap.size w w' := by
  have hmk := make_ints (m + 1) (by omega)
  have hmk' : ∀ wx, (Instr.makeSlice 25 (.int .i64 ((m : Int) + 1)) (.int .i64 ((m : Int) + 1))).run Yba.prog wx = .ok (.slice (some ⟨wx.heap.size, 0, none⟩) (m + 1) (m + 1)) (wx.alloc (rowI (List.replicate (m + 1) 0))) := hmk
  have hA' : A < w.heap.size := (Array.getElem?_eq_some_iff.1 hA).1
  have hB' : B < w.heap.size := (Array.getElem?_eq_some_iff.1 hB).1
  have HCA : Hid (∀ (h : World) i, Below w.heap.size w h → i < n → h.cell? ⟨A, xo + i, none⟩ = some (.int .i64 (lin za xo i))) := fun h i hb hi => rowI_cell ((hb.block A hA').trans hA) (xo + i) (by omega)
  have HCB : Hid (∀ (h : World) j, Below w.heap.size w h → j < m → h.cell? ⟨B, yo + j, none⟩ = some (.int .i64 (lin zb yo j))) := fun h j hb hj => rowI_cell ((hb.block B hB').trans hB) (yo + j) (by omega)
  have HST : Hid (LcsI w (lin za xo) (lin zb yo) m 0 w.heap.size (w.heap.size + 1) (List.replicate (m + 1) 0) (List.replicate (m + 1) 0) 0 ((w.alloc (rowI (List.replicate (m + 1) 0))).alloc (rowI (List.replicate (m + 1) 0)))) := by
    refine ⟨?_, ?_, ⟨by simp, fun j hj => ?_⟩, ⟨by simp, fun j hj => absurd hj (by omega)⟩, by omega, Nat.le_refl _, by omega, ((Below.refl _ _).alloc (Nat.le_refl _) _).alloc (by simp) _⟩
    · show ((w.heap.push _).push _)[w.heap.size]? = _
      rw [Array.getElem?_push, if_neg (by simp), Array.getElem?_push, if_pos rfl]
    · show ((w.heap.push _).push _)[w.heap.size + 1]? = _
      rw [Array.getElem?_push, if_pos (by simp)]
    · rw [L_zero]; simp [hj]
  obtain ⟨f, hf⟩ : ∃ f, f = lin za xo := ⟨_, rfl⟩
  obtain ⟨g, hg⟩ : ∃ g, g = lin zb yo := ⟨_, rfl⟩
  rw [← hf, ← hg] at HST ⊢
  rw [← hf] at HCA
  rw [← hg] at HCB
  clear hA hB hf hg hx hy hmk
  go_enter Yba.func11, Yba.ntmps11
  go_wp2_with fail
  go_loopw [5, 6, 7] (fun v5 v6 v7 wr => ∃ (i pb cb : Nat) (pz cz : List Int), i ≤ n ∧ v7 = .int .i64 ((i : Int) + 1) ∧ v5 = .slice (some ⟨pb, 0, none⟩) (m + 1) (m + 1) ∧ v6 = .slice (some ⟨cb, 0, none⟩) (m + 1) (m + 1) ∧ LcsI w f g m i pb cb pz cz 0 wr) (fun _ _ v7 _ => n + 1 - (intOf v7).toNat)
  case atStart => exact ⟨0, _, _, _, _, Nat.zero_le _, rfl, rfl, rfl, HST.out⟩
  case round =>
    clear HST hmk'
    obtain ⟨i, pb, cb, pz, cz, hi, rfl, rfl, rfl, st⟩ := hrel
    by_cases hin : i < n
    · have hc0 := rowI_cell st.hc 0 (by rw [st.rc.1]; omega)
      have hf0 := rowI_frozen st.hc 0
      have HIN : Hid (LcsI w f g m i pb cb pz (cz.set 0 0) 1 ((wr.drewN 0).setCell ⟨cb, 0, none⟩ (.int .i64 0))) := st.put (Nat.zero_le _) (by rw [L_zero']; rfl) 0
      clear st
      go_wp2_with fail
      go_loopw [8] (fun v8 wi => ∃ (j : Nat) (cz : List Int), j ≤ m ∧ v8 = .int .i64 ((j : Int) + 1) ∧ LcsI w f g m i pb cb pz cz (j + 1) wi) (fun v8 _ => m + 1 - (intOf v8).toNat)
      case atStart => exact ⟨0, _, Nat.zero_le _, rfl, HIN.out⟩
      case round =>
        clear HIN hc0 hf0
        obtain ⟨j, cz, hj, rfl, st⟩ := hrel
        by_cases hjm : j < m
        · have hca := HCA.out _ i st.bel hin
          have hcb := HCB.out _ j st.bel hjm
          have e1 := rowI_cell st.hp j (by rw [st.rp.1]; omega)
          rw [st.rp.2 j (by omega)] at e1
          have e2 := rowI_cell st.hp (j + 1) (by rw [st.rp.1]; omega)
          rw [st.rp.2 (j + 1) (by omega)] at e2
          have e3 := rowI_cell st.hc j (by rw [st.rc.1]; omega)
          rw [st.rc.2 j (by omega)] at e3
          have e4 := rowI_cell st.hc (j + 1) (by rw [st.rc.1]; omega)
          have fr := rowI_frozen st.hc (j + 1)
          have l1 := L_le f g i j
          have l2 := L_le f g i (j + 1)
          have l3 := L_le f g (i + 1) j
          have HP : Hid (∀ k (x : Int), x = (L f g (i + 1) (j + 1) : Int) → LcsI w f g m i pb cb pz (cz.set (j + 1) x) (j + 1 + 1) ((wr.drewN k).setCell ⟨cb, j + 1, none⟩ (.int .i64 x))) := fun k x h => st.put (by omega) h k
          have HHIT : Hid (f i = g j → L f g (i + 1) (j + 1) = L f g i j + 1) := fun h => L_hit h
          have HMISS : Hid (f i ≠ g j → L f g (i + 1) (j + 1) = max (L f g i (j + 1)) (L f g (i + 1) j)) := fun h => L_miss h
          obtain ⟨La, hLa⟩ : ∃ La, La = L f g i j := ⟨_, rfl⟩
          obtain ⟨Lb, hLb⟩ : ∃ Lb, Lb = L f g i (j + 1) := ⟨_, rfl⟩
          obtain ⟨Lc, hLc⟩ : ∃ Lc, Lc = L f g (i + 1) j := ⟨_, rfl⟩
          rw [← hLa] at e1 l1 HHIT
          rw [← hLb] at e2 l2 HMISS
          rw [← hLc] at e3 l3 HMISS
          have ewI : ∀ z : Int, z = (i : Int) → IntKind.i64.wrap z = (i : Int) := fun z hz => by subst hz; rw [IntKind.wrap_i64]; omega
          have ewJ : ∀ z : Int, z = (j : Int) → IntKind.i64.wrap z = (j : Int) := fun z hz => by subst hz; rw [IntKind.wrap_i64]; omega
          clear st hLa hLb hLc HCA HCB
          obtain ⟨x, hx⟩ : ∃ x, x = f i := ⟨_, rfl⟩
          obtain ⟨y, hy⟩ : ∃ y, y = g j := ⟨_, rfl⟩
          rw [← hx] at hca
          rw [← hy] at hcb
          by_cases hxy : x = y
          · have HV : Hid (((La : Int) + 1) = (L f g (i + 1) (j + 1) : Int)) := by
              have := HHIT.out (by rw [← hx, ← hy]; exact hxy)
              show ((La : Int) + 1) = (L f g (i + 1) (j + 1) : Int)
              rw [this]; rfl
            have hb : (x == y) = true := by simp [hxy]
            clear hx hy hxy HHIT HMISS
            go_upto_region 10 with fail
            go_quiet (fail)
            go_wp2_with fail
            go_roundw
            case rel => exact ⟨j + 1, _, hjm, by go_num, HP.out _ _ HV.out⟩
            case measure => simp [intOf] <;> omega
          · have HV : Hid (L f g (i + 1) (j + 1) = max Lb Lc) := HMISS.out (by rw [← hx, ← hy]; exact hxy)
            have hb : (x == y) = false := by rw [beq_eq_false_iff_ne]; exact hxy
            clear hx hy HHIT HMISS
            by_cases hge : Lc ≤ Lb
            · have HV' : Hid ((Lb : Int) = (L f g (i + 1) (j + 1) : Int)) := by
                show (Lb : Int) = (L f g (i + 1) (j + 1) : Int)
                rw [HV.out, Nat.max_eq_left hge]
              go_upto_region 10 with fail
              go_quiet (fail)
              go_upto_region 12 with fail
              go_quiet (fail)
              go_wp2_with fail
              go_roundw
              case rel => exact ⟨j + 1, _, hjm, by go_num, HP.out _ _ HV'.out⟩
              case measure => simp [intOf] <;> omega
            · have HV' : Hid ((Lc : Int) = (L f g (i + 1) (j + 1) : Int)) := by
                show (Lc : Int) = (L f g (i + 1) (j + 1) : Int)
                rw [HV.out, Nat.max_eq_right (by omega)]
              have hf5 : decide ((Lc : Int) ≤ (Lb : Int)) = false := by simp; omega
              go_upto_region 10 with fail
              go_quiet (fail)
              go_upto_region 12 with fail
              go_quiet (fail)
              go_wp2_with fail
              go_roundw
              case rel => exact ⟨j + 1, _, hjm, by go_num, HP.out _ _ HV'.out⟩
              case measure => simp [intOf] <;> omega
        · obtain rfl : j = m := by omega
          have HSW : Hid (∀ k, LcsI w f g j (i + 1) cb pb cz pz 0 (wr.drewN k)) := fun k => ⟨st.hc, st.hp, st.rc, ⟨st.rp.1, fun t ht => absurd ht (by omega)⟩, st.ne.symm, st.b2, st.b1, below_drewN st.bel k⟩
          clear st
          go_wp2_with fail
          go_roundw
          case rel => exact ⟨i + 1, cb, pb, cz, pz, hin, by go_num, rfl, rfl, HSW.out 0⟩
          case measure => simp [intOf] <;> omega
    · obtain rfl : i = n := by omega
      have e1 := rowI_cell st.hp m (by rw [st.rp.1]; omega)
      rw [st.rp.2 m (by omega)] at e1
      have HBEL : Hid (Below w.heap.size w wr) := st.bel
      clear st
      go_wp2_with fail
      go_ret
      exact ⟨rfl, HBEL.out⟩
end Go.Proofs.Ybulkdwba.lawB

/-
  FOR 'Rows.LawS6136BShortestSaid': slices.Clone, slices.Equal, zzs6136bkept, zzs6136binit: their contracts.
-/
import Derived.Test.YbulkdwbaBAlong
import Derived.Test.YbulkdwbaBLcs
namespace Go.Proofs.Ybulkdwba.lawB
open Go.ChangeShapes Go.WideShapes Go.ChangeAt Go.RowKit Go.Deep Go.Maps
open lawC (rowI rowI_cell rowI_frozen rowI_set made_rowI info3)
set_option linter.unusedVariables false

/-- Block g reads, in its first n cells, as u says. -/
def Rd (u : Nat → Value) (h : World) (t : TypeId) (g n : Nat) : Prop := ∃ cur : Array Value, h.heap[g]? = some (.cells cur t) ∧ ∀ j, j < n → cur[j]? = some (u j)
theorem Rd.cell {u : Nat → Value} {h : World} {t : TypeId} {g n : Nat} (r : Rd u h t g n) {j : Nat} (hj : j < n) : h.cell? ⟨g, j, none⟩ = some (u j) := by
  obtain ⟨cur, h1, h2⟩ := r
  rw [cell_of_row h g j _ t (0, 0) h1]; exact h2 j hj
theorem Rd.lt {u : Nat → Value} {h : World} {t : TypeId} {g n : Nat} (r : Rd u h t g n) : g < h.heap.size := by obtain ⟨cur, h1, h2⟩ := r; exact lt_of_some h1
theorem Rd.keep {u : Nat → Value} {h h' : World} {t : TypeId} {g n : Nat} (r : Rd u h t g n) (e : h'.heap[g]? = h.heap[g]?) : Rd u h' t g n := by obtain ⟨cur, h1, h2⟩ := r; exact ⟨cur, e.trans h1, h2⟩
theorem rd_of_own {α : Type} {vf : α → Value} (d : α) {w : World} {base : Nat} {t : TypeId} {v : Value} {zs : List α} {n : Nat} {xs : List Value} (hn : n = zs.length) (hx : xs = zs.map vf) (h : w.ownsRow base t 1 v n xs) (hv : v ≠ .slice none 0 0) :
    ∃ g cap, v = .slice (some ⟨g, 0, none⟩) zs.length cap ∧ base ≤ g ∧ zs.length ≤ cap ∧ Rd (fun j => vf (zs[j]?.getD d)) w t g zs.length := by
  subst hn hx
  rcases h.2 with ⟨h1, _⟩ | ⟨g, cap, cur, rfl, hb, hg, hc, _, _, ht⟩
  · exact absurd h1 hv
  · refine ⟨g, cap, rfl, hb, hc, cur, hg, fun j hj => ?_⟩
    have e : (cur.toList.take (zs.length * 1))[j]? = (zs.map vf)[j]? := by rw [ht]
    rw [List.getElem?_take, if_pos (by omega)] at e
    simp [hj] at e ⊢
    exact e

set_option maxHeartbeats 400000 in
theorem cloneI (b n cap : Nat) (zs : List Int) (w : World) (hn : zs.length = n) (hl : n ≤ 4096) (hb : w.heap[b]? = some (rowI zs)) :
    Calls Yba.prog 7 #[.slice (some ⟨b, 0, none⟩) n cap] w fun e w' => ∃ g cap', e = .returned (.slice (some ⟨g, 0, none⟩) n cap') ∧ w.heap.size ≤ g ∧ Rd (fun j => Value.int .i64 (zs[j]?.getD 0)) w' 3 g n ∧ Below w.heap.size w w' := by
  have hnil := fun wx => Lib.run_eql_slice_nil (P := Yba.prog) wx 25 3 (some ⟨b, 0, none⟩) n cap 0 0 Yba.underlying25
  obtain ⟨i0, hi, hz0, hz1, hz2⟩ := info_parts info3
  have hblt : b < w.heap.size := lt_of_some hb
  have hnews : ∀ j u, (zs.map (Value.int .i64))[j]? = some u → (w.alloc (.cells #[] 3)).cell? ((⟨b, 0, none⟩ : Addr).add j) = some u := by
    intro j u hj
    have hjl : j < zs.length := by have := (List.getElem?_eq_some_iff.1 hj).1; simpa using this
    have hcj := rowI_cell hb j hjl
    rw [Go.WideShapes.add_plain, Nat.zero_add, (((Below.refl w.heap.size w).alloc (Nat.le_refl _) (.cells #[] 3)).cell (p := ⟨b, j, none⟩) hblt), hcj]
    simp [hjl] at hj ⊢
    exact hj
  go_enter Yba.func7, Yba.ntmps7
  go_wp2_with (at_builtin; refine wpList_append_own _ rfl _ _ 25 rfl w.heap.size 3 i0 (.int .i64 0) 1 8 Yba.underlying25 hi hz0 hz1 hz2 rfl (by decide) (.slice (some ⟨w.heap.size, 0, none⟩) 0 0) 0 [] rfl (World.ownsRow_lit (base := w.heap.size) (e := 3) (size := 1) w #[] 0 (Nat.le_refl _) (by unfold maxLen; omega) rfl) ⟨b, 0, none⟩ n cap (zs.map (Value.int .i64)) rfl (by simp [hn]) hnews (by intro u hu; obtain ⟨s, _, rfl⟩ := List.mem_map.1 hu; rfl) (by unfold maxLen; omega) (by omega) (by simp) ?_; intro v' w1 hown hg hnn)
  go_ret
  obtain ⟨g, cap', e1, e2, e3, e4⟩ := rd_of_own (vf := Value.int .i64) 0 (zs := zs) (by omega) (by simp) hown (fun e => by have := (hnn.1 e).1; simp at this)
  subst e1
  rw [hn] at e4 ⊢
  exact ⟨g, cap', rfl, e2, e4, ((Below.refl _ _).alloc (Nat.le_refl _) _).grown hg (by simp) (fun k hk => by simp [Value.ownBlock] at hk; omega)⟩

set_option maxHeartbeats 400000 in
theorem cloneB (b n cap : Nat) (zs : List Bool) (w : World) (hn : zs.length = n) (hl : n ≤ 4096) (hb : w.heap[b]? = some (rowB zs)) :
    Calls Yba.prog 6 #[.slice (some ⟨b, 0, none⟩) n cap] w fun e w' => ∃ g cap', e = .returned (.slice (some ⟨g, 0, none⟩) n cap') ∧ w.heap.size ≤ g ∧ Rd (fun j => Value.bool (zs[j]?.getD false)) w' 4 g n ∧ Below w.heap.size w w' := by
  have hnil := fun wx => Lib.run_eql_slice_nil (P := Yba.prog) wx 24 4 (some ⟨b, 0, none⟩) n cap 0 0 Yba.underlying24
  obtain ⟨i0, hi, hz0, hz1, hz2⟩ := info_parts info4
  have hblt : b < w.heap.size := lt_of_some hb
  have hnews : ∀ j u, (zs.map (Value.bool))[j]? = some u → (w.alloc (.cells #[] 4)).cell? ((⟨b, 0, none⟩ : Addr).add j) = some u := by
    intro j u hj
    have hjl : j < zs.length := by have := (List.getElem?_eq_some_iff.1 hj).1; simpa using this
    have hcj := rowV_cell false hb j hjl
    rw [Go.WideShapes.add_plain, Nat.zero_add, (((Below.refl w.heap.size w).alloc (Nat.le_refl _) (.cells #[] 4)).cell (p := ⟨b, j, none⟩) hblt), hcj]
    simp [hjl] at hj ⊢
    exact hj
  go_enter Yba.func6, Yba.ntmps6
  go_wp2_with (at_builtin; refine wpList_append_own _ rfl _ _ 24 rfl w.heap.size 4 i0 (.bool false) 1 1 Yba.underlying24 hi hz0 hz1 hz2 rfl (by decide) (.slice (some ⟨w.heap.size, 0, none⟩) 0 0) 0 [] rfl (World.ownsRow_lit (base := w.heap.size) (e := 4) (size := 1) w #[] 0 (Nat.le_refl _) (by unfold maxLen; omega) rfl) ⟨b, 0, none⟩ n cap (zs.map (Value.bool)) rfl (by simp [hn]) hnews (by intro u hu; obtain ⟨s, _, rfl⟩ := List.mem_map.1 hu; rfl) (by unfold maxLen; omega) (by omega) (by simp) ?_; intro v' w1 hown hg hnn)
  go_ret
  obtain ⟨g, cap', e1, e2, e3, e4⟩ := rd_of_own (vf := Value.bool) false (zs := zs) (by omega) (by simp) hown (fun e => by have := (hnn.1 e).1; simp at this)
  subst e1
  rw [hn] at e4 ⊢
  exact ⟨g, cap', rfl, e2, e4, ((Below.refl _ _).alloc (Nat.le_refl _) _).grown hg (by simp) (fun k hk => by simp [Value.ownBlock] at hk; omega)⟩

/-- Two slices that read alike are told equal. -/
theorem equal_same (g1 g2 n c1 c2 : Nat) (u : Nat → Int) (w : World) (hn : n ≤ 4096) (h1 : ∀ j, j < n → w.cell? ⟨g1, j, none⟩ = some (.int .i64 (u j))) (h2 : ∀ j, j < n → w.cell? ⟨g2, j, none⟩ = some (.int .i64 (u j))) :
    Calls Yba.prog 9 #[.slice (some ⟨g1, 0, none⟩) n c1, .slice (some ⟨g2, 0, none⟩) n c2] w fun e w' => e = .returned (.bool true) ∧ ∃ q, w' = w.drewN q := by
  go_enter Yba.func9, Yba.ntmps9
  go_wp2_with fail
  go_loopw [13] (fun i wr => ∃ j : Nat, j ≤ n ∧ i = .int .i64 j ∧ ∃ q, wr = w.drewN q) (fun i _ => n - (intOf i).toNat)
  case atStart => exact ⟨0, Nat.zero_le _, rfl, 0, rfl⟩
  case round =>
    obtain ⟨j, hj, rfl, q, rfl⟩ := hrel
    by_cases hjl : j < n
    · have e1 := h1 j hjl
      have e2 := h2 j hjl
      clear h1 h2
      go_wp2_with fail
      go_quiet (fail)
      go_wp2_with fail
      go_roundw
      case rel => exact ⟨j + 1, by omega, by go_num, _, rfl⟩
      case measure => simp [intOf]; omega
    · obtain rfl : j = n := by omega
      clear h1 h2
      go_wp2_with fail
      go_ret
      exact ⟨rfl, _, rfl⟩

/-- A slice of booleans that came in. -/
def InB (w : World) (sa : Option Addr) (n : Nat) : Prop := 0 < n → ∃ b off, sa = some ⟨b, off, none⟩ ∧ b < w.heap.size ∧ ∀ j, j < n → ∃ v, w.cell? ⟨b, off + j, none⟩ = some (.bool v)
theorem make_bools (m : Nat) (hm : m ≤ 100000) (wx : World) : (Instr.makeSlice 24 (.int .i64 (m : Int)) (.int .i64 (m : Int))).run Yba.prog wx = .ok (.slice (some ⟨wx.heap.size, 0, none⟩) m m) (wx.alloc (rowB (List.replicate m false))) := by
  have h := run_make_row' (P := Yba.prog) 24 4 (.bool false) 1 Yba.underlying24 info4 rfl .i64 .i64 m (by omega) (by omega) wx
  rw [h]
  have : Obj.cells (madeCells #[Value.bool false] m) 4 = rowB (List.replicate m false) := made_rowV Value.bool 4 m false
  rw [this]
set_option maxHeartbeats 1000000 in
theorem init_any (n lo hi lc cc : Nat) (sa : Option Addr) (w : World) (hn : n ≤ 4096) (hhi : hi ≤ n) (hlo : lo ≤ n) (hlc : lc ≤ maxLen) (hc : InB w sa lc) :
    Calls Yba.prog 5 #[.int .i64 n, .int .i64 lo, .int .i64 hi, .slice sa lc cc] w fun e w' => e = .returned (.slice (some ⟨w.heap.size, 0, none⟩) n n) ∧ ∃ bs : List Bool, bs.length = n ∧ (∀ t, lo ≤ t → t < hi → bs[t]?.getD false = false) ∧ w'.heap[w.heap.size]? = some (rowB bs) ∧ Below w.heap.size w w' := by
  have hmk := make_bools n (by omega)
  have HS : Hid ((w.alloc (rowB (List.replicate n false))).heap[w.heap.size]? = some (rowB (List.replicate n false)) ∧ Below w.heap.size w (w.alloc (rowB (List.replicate n false)))) := ⟨heap_alloc_new _ _, (Below.refl _ _).alloc (Nat.le_refl _) _⟩
  have HC : Hid (InB w sa lc) := hc
  unfold maxLen at hlc
  clear hc
  go_enter Yba.func5, Yba.ntmps5
  go_wp2_with fail
  go_loopw [10] (fun v wr => ∃ (i : Nat) (bs : List Bool), i ≤ n ∧ v = .int .i64 i ∧ bs.length = n ∧ (∀ t, lo ≤ t → t < hi → bs[t]?.getD false = false) ∧ wr.heap[w.heap.size]? = some (rowB bs) ∧ Below w.heap.size w wr) (fun v _ => n - (intOf v).toNat)
  case atStart => exact ⟨0, _, Nat.zero_le _, rfl, List.length_replicate .., fun t _ ht => by rw [List.getElem?_replicate]; split <;> rfl, HS.out.1, HS.out.2⟩
  case round =>
    clear hmk HS
    obtain ⟨i, bs, hi', rfl, hbl, hall, hr, hbel⟩ := hrel
    by_cases hin : i < n
    · by_cases hout : i < lo ∨ hi ≤ i
      · by_cases hil : i < lc
        · obtain ⟨b, off, rfl, hblt, hcs⟩ := HC.out (by omega)
          obtain ⟨v, hv⟩ := hcs i hil
          have hv' : wr.cell? ⟨b, off + i, none⟩ = some (.bool v) := by rw [hbel.cell (by exact hblt)]; exact hv
          have hcr := rowV_cell false hr i (by omega)
          have hfr := rowV_frozen hr i
          have HN : Hid ((∀ t, lo ≤ t → t < hi → (bs.set i v)[t]?.getD false = false) ∧ (wr.setCell ⟨w.heap.size, i, none⟩ (.bool v)).heap[w.heap.size]? = some (rowB (bs.set i v)) ∧ Below w.heap.size w (wr.setCell ⟨w.heap.size, i, none⟩ (.bool v))) := ⟨fun t h1 h2 => by rw [List.getElem?_set_ne (by omega)]; exact hall t h1 h2, rowV_set (v := Value.bool) hr i v, hbel.setCell (Nat.le_refl _) _⟩
          clear hall hr hbel hcs hv HC
          by_cases hlt : i < lo
          · go_wp2_with fail
            go_roundw
            case rel => exact ⟨i + 1, _, hin, by go_num, by rw [List.length_set]; exact hbl, HN.out⟩
            case measure => simp [intOf]; omega
          · have hge : hi ≤ i := by omega
            go_wp2_with fail
            go_roundw
            case rel => exact ⟨i + 1, _, hin, by go_num, by rw [List.length_set]; exact hbl, HN.out⟩
            case measure => simp [intOf]; omega
        · have HN : Hid ((∀ t, lo ≤ t → t < hi → bs[t]?.getD false = false) ∧ wr.heap[w.heap.size]? = some (rowB bs) ∧ Below w.heap.size w wr) := ⟨hall, hr, hbel⟩
          clear hall hr hbel HC
          by_cases hlt : i < lo
          · go_wp2_with fail
            go_roundw
            case rel => exact ⟨i + 1, _, hin, by go_num, hbl, HN.out⟩
            case measure => simp [intOf]; omega
          · have hge : hi ≤ i := by omega
            go_wp2_with fail
            go_roundw
            case rel => exact ⟨i + 1, _, hin, by go_num, hbl, HN.out⟩
            case measure => simp [intOf]; omega
      · have HN : Hid ((∀ t, lo ≤ t → t < hi → bs[t]?.getD false = false) ∧ wr.heap[w.heap.size]? = some (rowB bs) ∧ Below w.heap.size w wr) := ⟨hall, hr, hbel⟩
        have g1 : ¬ i < lo := by omega
        have g2 : ¬ hi ≤ i := by omega
        clear hall hr hbel HC hout
        go_wp2_with fail
        go_roundw
        case rel => exact ⟨i + 1, _, hin, by go_num, hbl, HN.out⟩
        case measure => simp [intOf]; omega
    · obtain rfl : i = n := by omega
      clear HC
      go_wp2_with fail
      go_ret
      exact ⟨rfl, bs, hbl, hall, hr, hbel⟩

set_option maxHeartbeats 1000000 in
/-- zzs6136bkept: the lines that are not marked. -/
theorem kept_any (A CA na lo hi : Nat) (za : List Int) (ca : List Bool) (w : World) (hna : za.length = na) (hca : ca.length = na) (hn : na ≤ 4096) (hlo : lo ≤ hi) (hhi : hi ≤ na) (hA : w.heap[A]? = some (rowI za)) (hC : w.heap[CA]? = some (rowB ca)) :
    Calls Yba.prog 10 #[.slice (some ⟨A, 0, none⟩) na na, .slice (some ⟨CA, 0, none⟩) na na, .int .i64 lo, .int .i64 hi] w fun e w' => ∃ g cap, e = .returned (.slice (some ⟨g, 0, none⟩) (kp (lin za 0) (mk ca 0) lo (hi - lo)).length cap) ∧ w.heap.size ≤ g ∧ Rd (fun j => .int .i64 ((kp (lin za 0) (mk ca 0) lo (hi - lo))[j]?.getD 0)) w' 3 g (kp (lin za 0) (mk ca 0) lo (hi - lo)).length ∧ Below w.heap.size w w' := by
  obtain ⟨i0, hi0, hz0, hz1, hz2⟩ := info_parts info3
  have HA : Hid (∀ (h : World) i, Below w.heap.size w h → i < na → h.cell? ⟨A, i, none⟩ = some (.int .i64 (lin za 0 i))) := fun h i hb hi => by
    have := rowI_cell ((hb.block A (lt_of_some hA)).trans hA) i (by omega)
    unfold lin; rw [Nat.zero_add]; exact this
  have HC : Hid (∀ (h : World) i, Below w.heap.size w h → i < na → h.cell? ⟨CA, i, none⟩ = some (.bool (mk ca 0 i))) := fun h i hb hi => by
    have := rowV_cell false ((hb.block CA (lt_of_some hC)).trans hC) i (by omega)
    unfold mk; rw [Nat.zero_add]; exact this
  have hkl : ∀ d, (kp (lin za 0) (mk ca 0) lo d).length ≤ d := fun d => by
    induction d with
    | zero => exact Nat.le_refl _
    | succ d ih => rw [kp]; split <;> simp <;> omega
  have HST : Hid ((w.alloc (.cells #[] 3)).ownsRow w.heap.size 3 1 (.slice (some ⟨w.heap.size, 0, none⟩) 0 0) 0 [] ∧ Below w.heap.size w (w.alloc (.cells #[] 3))) := ⟨World.ownsRow_lit (base := w.heap.size) (e := 3) (size := 1) w #[] 0 (Nat.le_refl _) (by unfold maxLen; omega) rfl, (Below.refl _ _).alloc (Nat.le_refl _) _⟩
  obtain ⟨f, hf⟩ : ∃ f, f = lin za 0 := ⟨_, rfl⟩
  obtain ⟨c, hc⟩ : ∃ c, c = mk ca 0 := ⟨_, rfl⟩
  rw [← hf, ← hc] at hkl ⊢
  rw [← hf] at HA
  rw [← hc] at HC
  have HKL : Hid (∀ d, (kp f c lo d).length ≤ d) := hkl
  clear hf hc hA hC hna hca hkl
  go_enter Yba.func10, Yba.ntmps10
  go_wp2_with fail
  go_loopw [9, 10] (fun v9 v10 wr => ∃ (d : Nat), lo + d ≤ hi ∧ v10 = .int .i64 ((lo + d : Nat) : Int) ∧ v9 ≠ .slice none 0 0 ∧ wr.ownsRow w.heap.size 3 1 v9 (kp f c lo d).length ((kp f c lo d).map (Value.int .i64)) ∧ Below w.heap.size w wr) (fun _ v10 _ => hi - (intOf v10).toNat)
  case atStart => exact ⟨0, hlo, rfl, by simp, HST.out.1, HST.out.2⟩
  case round =>
    clear HST
    obtain ⟨d, hd, rfl, hnn9, hown, hbel⟩ := hrel
    by_cases hdh : lo + d < hi
    · have hcA := HA.out wr (lo + d) hbel (by omega)
      have hcC := HC.out wr (lo + d) hbel (by omega)
      obtain ⟨i, hie⟩ : ∃ i, i = lo + d := ⟨_, rfl⟩
      rw [← hie] at hcA hcC hd hdh ⊢
      have hkd := HKL.out d
      have HKP : Hid (kp f c lo (d + 1) = kp f c lo d ++ (if c i then [] else [f i])) := by show kp f c lo (d + 1) = _; rw [kp, hie]
      have HIE : Hid (i = lo + d) := hie
      have hina : i < na := by omega
      have hdn : d ≤ 4096 := by omega
      clear hie
      cases hci : c i with
      | true =>
        rw [hci] at hcC HKP
        have HK2 : Hid (kp f c lo (d + 1) = kp f c lo d) := by show kp f c lo (d + 1) = kp f c lo d; have := HKP.out; simpa using this
        clear HA HC HKL HKP
        go_wp2_with fail
        go_roundw
        case rel => exact ⟨d + 1, by have := HIE.out; omega, by rw [← Nat.add_assoc, ← HIE.out]; go_num, hnn9, by rw [HK2.out]; exact hown, hbel⟩
        case measure => simp [intOf]; omega
      | false =>
        rw [hci] at hcC HKP
        have HK2 : Hid (kp f c lo (d + 1) = kp f c lo d ++ [f i]) := by show kp f c lo (d + 1) = kp f c lo d ++ [f i]; have := HKP.out; simpa using this
        have hs0 := hbel.size
        have hown' := hown.alloc (.cells #[Value.int .i64 (f i)] 3)
        clear HA HC HKL HKP
        go_wp2_with (at_builtin; refine wpList_append_own _ rfl _ _ 25 rfl w.heap.size 3 i0 (.int .i64 0) 1 8 Yba.underlying25 hi0 hz0 hz1 hz2 rfl (by decide) _ (kp f c lo d).length ((kp f c lo d).map (Value.int .i64)) rfl hown' ⟨wr.heap.size, 0, none⟩ 1 1 [.int .i64 (f i)] rfl rfl (cell_one_new _ _ _) (by intro u hu; simp at hu; subst hu; rfl) (by unfold maxLen; omega) (by omega) (by simp; omega) ?_; intro v' w1 hown1 hg hnn)
        go_roundw
        case rel =>
          refine ⟨d + 1, by have := HIE.out; omega, by rw [← Nat.add_assoc, ← HIE.out]; go_num, fun e => by have := (hnn.1 e).1; exact hnn9 this, ?_, (hbel.alloc (by omega) _).grown hg (by simp; omega) (fun k hk => (hown.lt k hk).1)⟩
          rw [HK2.out]; simpa using hown1
        case measure => simp [intOf]; omega
    · obtain rfl : hi = lo + d := by omega
      obtain ⟨g, cap, e1, e2, e3, e4⟩ := rd_of_own (vf := Value.int .i64) 0 (zs := kp f c lo d) rfl rfl hown hnn9
      subst e1
      clear HA HC HKL
      go_wp2_with fail
      go_ret
      rw [Nat.add_sub_cancel_left]
      exact ⟨g, cap, rfl, e2, e4, hbel⟩
end Go.Proofs.Ybulkdwba.lawB

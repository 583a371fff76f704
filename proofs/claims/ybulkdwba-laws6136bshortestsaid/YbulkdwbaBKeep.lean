/-
  FOR 'Rows.LawS6136BShortestSaid': (*bitVectors).keep: its contract where a row is one word.
-/
import Derived.Test.YbulkdwbaBWalk
namespace Go.Proofs.Ybulkdwba.lawB
open Go.ChangeShapes Go.WideShapes Go.ChangeAt Go.RowKit Go.Deep Go.Maps
open lawC (rowI rowI_cell rowI_frozen rowI_set made_rowI info3)
set_option linter.unusedVariables false

/-- 'keep' under way: the rows after 0, W, .., c * W lines are kept. -/
structure KeepI (f g : Nat → Int) (n W : Nat) (w : World) (R : Nat) (ws : List Nat) (c : Nat) (ws' : List Nat) (wr : World) : Prop where
  rr : wr.heap[R]? = some (rowU ws')
  len : ws'.length = ws.length
  lt : AllW ws'
  rows : ∀ c', c' ≤ c → RowAt f g n W ws' (c' * W) (c' * W)
  gr : w.grownBy wr (some R)
theorem KeepI.start {f g : Nat → Int} {n W : Nat} {w : World} {R : Nat} {ws : List Nat} (hR : w.heap[R]? = some (rowU ws)) (hlt : AllW ws) (h : RowAt f g n W ws 0 0) : KeepI f g n W w R ws 0 ws w :=
  ⟨hR, rfl, hlt, fun c' hc => by obtain rfl : c' = 0 := by omega
                                 simpa using h, World.grownBy.refl _ _⟩
/-- What 'keep' leaves. -/
def KeepP (f g : Nat → Int) (n W m : Nat) (w : World) (R : Nat) (ws : List Nat) (e : Ending) (w' : World) : Prop :=
  ∃ (fin : Nat) (ws' : List Nat), e = .returned (.int .i64 fin) ∧ fin ≤ m ∧ (fin < m → L f g n fin = n) ∧ w'.heap[R]? = some (rowU ws') ∧ ws'.length = ws.length ∧ AllW ws' ∧ (∀ c, c * W ≤ fin → RowAt f g n W ws' (c * W) (c * W)) ∧ w.grownBy w' (some R)
theorem KeepI.done {f g : Nat → Int} {n W m : Nat} {w : World} {R : Nat} {ws ws' : List Nat} {c : Nat} {wr : World} (s : KeepI f g n W w R ws c ws' wr) {fin : Nat} (hf : fin ≤ m) (hfin : fin < m → L f g n fin = n) (hc : fin < (c + 1) * W) : KeepP f g n W m w R ws (.returned (.int .i64 fin)) wr := by
  refine ⟨fin, ws', rfl, hf, hfin, s.rr, s.len, s.lt, fun c' hc' => s.rows c' ?_, s.gr⟩
  have : c' * W < (c + 1) * W := by omega
  have := Nat.lt_of_mul_lt_mul_right this
  omega

/-- One word of one row: the line is in s. -/
theorem one_some {f g : Nat → Int} {n N j a : Nat} {q : Int → Option Nat} {ws mt : List Nat} {w : World} {R : Nat} (hrow : RowAt f g n 1 ws j j) (hR : w.heap[R]? = some (rowU ws)) (hlt : AllW ws) (hm : MtOk f n N 1 q mt) (hix : Ix f n N q) (ha : q (g j) = some a) (hj : j + 1 < ws.length) {V : Nat} (hV : V < 18446744073709551616)
    (hb : ∀ k, k < 64 → V.testBit k = nb (fun k => (ws[j]?.getD 0).testBit k) (fun k => (mt[a]?.getD 0).testBit k) false k) : RowAt f g n 1 (ws.set (j + 1) V) (j + 1) (j + 1) := by
  have s0 := StepI.start (w := w) (R := R) (o1 := j + 1) (v := bitAt ws j) (m := bitAt mt (a * 1)) hR hlt
  obtain ⟨n1, _⟩ := nb_word (v := bitAt ws j) (m := bitAt mt (a * 1)) (i := 0) (x := ws[j]?.getD 0) (y := mt[a]?.getD 0) (c := false) (fun k hk => by rw [bitAt_word _ _ _ _ hk]; rfl) (fun k hk => by rw [bitAt_word _ _ _ _ hk, Nat.mul_one]; rfl) rfl
  have s1 := s0.set hV (by omega) (fun k hk => by rw [hb k hk]; exact n1 k hk)
  obtain ⟨ws2, r1, _, _, _, r5, _⟩ := s1.done hrow hm hix ha
  rw [Nat.add_zero] at r1
  have r1' := rowV_set (v := u64v) hR (j + 1) V
  rw [r1'] at r1
  have : ws.set (j + 1) V = ws2 := by
    have h := Option.some.inj r1
    unfold rowV at h
    injection h with h _
    have h2 : (List.map u64v (ws.set (j + 1) V)) = (List.map u64v ws2) := by simpa using congrArg Array.toList h
    exact List.map_inj_right (fun a b e => by unfold u64v at e; simp at e; omega) |>.1 h2
  rw [this]; exact r5
/-- .. it is not. -/
theorem one_none {f g : Nat → Int} {n N j : Nat} {q : Int → Option Nat} {ws : List Nat} (hrow : RowAt f g n 1 ws j j) (hix : Ix f n N q) (ha : q (g j) = none) (hj : j + 1 < ws.length) : RowAt f g n 1 (ws.set (j + 1) (ws[j]?.getD 0)) (j + 1) (j + 1) := fun k hk => by
  rw [rb_same (fun t ht e => by
    have := (hix.some (g j)).2 ⟨t, ht, e⟩
    rw [ha] at this; simp at this), ← hrow k hk]
  unfold bitAt
  rw [show k / 64 = 0 by omega, Nat.add_zero, Nat.add_zero, List.getElem?_set_self (by omega)]; rfl
theorem KeepI.one {f g : Nat → Int} {n : Nat} {w : World} {R : Nat} {ws ws' : List Nat} {j : Nat} {wr : World} (s : KeepI f g n 1 w R ws j ws' wr) {V : Nat} (hV : V < 18446744073709551616) (hrow : RowAt f g n 1 (ws'.set (j + 1) V) (j + 1) (j + 1)) (k : Nat) :
    KeepI f g n 1 w R ws (j + 1) (ws'.set (j + 1) V) ((wr.drewN k).setCell ⟨R, j + 1, none⟩ (u64v V)) := by
  refine ⟨rowV_set (w := wr.drewN k) s.rr _ _, by rw [List.length_set]; exact s.len, s.lt.set _ hV, fun c' hc => ?_, grown_setCell (grown_drewN s.gr k) _ _⟩
  by_cases e : c' = j + 1
  · subst e; simpa using hrow
  · exact (s.rows c' (by omega)).keep (fun t ht => by rw [List.getElem?_set_ne (by omega)])

set_option maxRecDepth 100000 in
set_option maxHeartbeats 1000000 in
theorem keep_one (P : Nat) (f g : Nat → Int) (n : Nat) (lo : Int) (p : Option Addr) (l c : Nat) (mm : Option Nat) (N : Nat) (q : Int → Option Nat) (mb : Nat) (mt : List Nat) (R K cK B bo m cB : Nat) (bt : Value) (zs : List Int) (ws : List Nat) (w : World)
    (bv : BV w P f n 1 lo (.slice p l c) (.map mm) N q mb mt) (hR : w.heap[R]? = some (rowU ws)) (hB : w.heap[B]? = some (rowI zs)) (hmb : R ≠ mb) (hlt : AllW ws) (hlen : ws.length ≤ 1000000) (hm : m ≤ 4096) (hK : m + 1 ≤ K) (hKl : K ≤ ws.length)
    (hids : ∀ k, k < m → bo + k < zs.length ∧ zs[bo + k]?.getD 0 = g k ∧ Small (g k)) (hrow : RowAt f g n 1 ws 0 0) :
    Calls Yba.prog 19 #[.pointer (some ⟨P, 0, none⟩), .slice (some ⟨R, 0, none⟩) K cK, bt, .slice (some ⟨B, bo, none⟩) m cB] w (KeepP f g n 1 m w R ws) := by
  have hn := bv.hn
  have hq : ∀ id a, q id = some a → a ≤ 4096 := fun id a h => Nat.le_of_lt (Nat.lt_of_lt_of_le (bv.ix.lt id a h) (Nat.le_trans bv.ix.le hn))
  have HBV : Hid (∀ wr, w.grownBy wr (some R) → BV wr P f n 1 lo (.slice p l c) (.map mm) N q mb mt) := fun wr h => bv.words hR hmb h
  have HB : Hid (∀ wr, w.grownBy wr (some R) → wr.heap[B]? = some (rowI zs)) := fun wr h => (h.block B (Array.getElem?_eq_some_iff.1 hB).1 (by intro e; cases e; rw [hR] at hB; simp [rowV, rowI] at hB)).trans hB
  have HS : Hid (KeepI f g n 1 w R ws 0 ws w) := KeepI.start hR hlt hrow
  have HI : Hid (∀ k, k < m → bo + k < zs.length ∧ zs[bo + k]?.getD 0 = g k ∧ Small (g k)) := hids
  have HQ : Hid (∀ id a, q id = some a → a ≤ 4096) := hq
  obtain ⟨x0, _⟩ := boxV_cell bv.bx
  have c0 : w.cell? ⟨R, 0, none⟩ = some (.int .u64 ((ws[0]?.getD 0 : Nat) : Int)) := rowV_cell 0 hR 0 (by omega)
  clear hids hrow bv hq hB
  go_enter Yba.func19, Yba.ntmps19
  go_wp2_with fail
  go_loopw [9, 27] (fun v9 v wr => ∃ (j : Nat) (ws' : List Nat), j ≤ m ∧ v = .int .i64 j ∧ v9 = .int .u64 ((ws'[j]?.getD 0 : Nat) : Int) ∧ KeepI f g n 1 w R ws j ws' wr ∧ (j = m ∨ True)) (fun _ v _ => m - (intOf v).toNat)
  case atStart => exact ⟨0, ws, Nat.zero_le _, rfl, rfl, HS.out, .inr trivial⟩
  case round =>
    clear c0 x0 HS
    obtain ⟨j, ws', hj, rfl, rfl, st, _⟩ := hrel
    by_cases hjm : j < m
    · obtain ⟨i1, i2, i3⟩ := HI.out j hjm
      have hcB := rowI_cell (HB.out wr st.gr) (bo + j) i1
      rw [i2] at hcB
      have bvr := HBV.out wr st.gr
      obtain ⟨x0, x1, x2, x3, x4, x5, x6, xf⟩ := boxV_cell bvr.bx
      have hof := of_any P 2 lo (g j) (.slice p l c) (.map mm) q wr bvr.slo i3 x2 x3 x4 bvr.iv HQ.out
      have hslen := st.len
      have hrj : RowAt f g n 1 ws' j j := by simpa using st.rows j (Nat.le_refl _)
      have hcR := rowV_cell 0 st.rr (j + 1) (by omega)
      have hfR := rowV_frozen st.rr (j + 1)
      have hxl := st.lt.get j
      have hne : P ≠ R := fun e => by have h1 := bvr.bx; rw [e, st.rr] at h1; simp [boxV, rowV] at h1
      have HDONE : Hid (∀ V (wx : World) ws2, KeepI f g n 1 w R ws (j + 1) ws2 wx → ws2[j + 1]?.getD 0 = V → V &&& lastW n = 0 → KeepP f g n 1 m w R ws (.returned (.int .i64 ((j + 1 : Nat) : Int))) wx) := fun V wx ws2 s e h => by
        refine s.done hjm (fun _ => ?_) (by omega)
        have hr := s.rows (j + 1) (Nat.le_refl _)
        rw [Nat.mul_one] at hr
        exact all_law (o := j + 1) bvr.hW bvr.hn0 hr (fun t ht => absurd ht (by omega)) (by rw [Nat.add_zero, e]; exact h)
      have HGET : Hid (∀ V, (ws'.set (j + 1) V)[j + 1]?.getD 0 = V) := fun V => by rw [List.getElem?_set_self (by omega)]; rfl
      have z1 : ∀ v k, ((wr.drewN k).setCell ⟨R, j + 1, none⟩ v).cell? ⟨P, 1, none⟩ = some (.int .u64 (lastW n)) := fun v k => (World.cell?_setCell_far _ _ _ _ (fun e => hne e.symm)).trans x1
      cases hqj : q (g j) with
      | none =>
        rw [hqj] at hof
        have hof' : Calls Yba.prog 22 #[.pointer (some ⟨P, 2, none⟩), .int .i64 (g j)] wr fun e w' => e = .returned (.int .i64 (-1)) ∧ ∃ n, w' = wr.drewN n := hof
        have HK : Hid (∀ k, KeepI f g n 1 w R ws (j + 1) (ws'.set (j + 1) (ws'[j]?.getD 0)) ((wr.drewN k).setCell ⟨R, j + 1, none⟩ (u64v (ws'[j]?.getD 0)))) := fun k => st.one hxl (one_none hrj bvr.ix hqj (by omega)) k
        obtain ⟨V, hV⟩ : ∃ V, V = ws'[j]?.getD 0 := ⟨_, rfl⟩
        rw [← hV] at HK hxl ⊢
        have hand := u64_and_nat V (lastW n) hxl (lastW_lt n)
        obtain ⟨y, hy⟩ : ∃ y, y = V &&& lastW n := ⟨_, rfl⟩
        rw [← hy] at hand
        have HY : Hid (y = V &&& lastW n) := hy
        clear hof st bvr hrj hqj HBV HB HI hV hy x2 x3 x4 x5 xf i1 i2 i3 x0 x1
        by_cases hy0 : y = 0
        · subst hy0
          have hb : (((0 : Nat) : Int) == 0) = true := by rfl
          go_wp2_with (go_at_call 22; refine hof'.mono ?_; rintro e w5 ⟨rfl, n5, rfl⟩)
          go_ret
          exact HDONE.out V _ _ (HK.out _) (HGET.out V) HY.out.symm
        · have hb : ((y : Int) == 0) = false := by rw [beq_eq_false_iff_ne]; omega
          go_wp2_with (go_at_call 22; refine hof'.mono ?_; rintro e w5 ⟨rfl, n5, rfl⟩)
          go_roundw
          case rel => exact ⟨j + 1, _, hjm, by go_num, by rw [HGET.out V], HK.out _, .inr trivial⟩
          case measure => simp [intOf]; omega
      | some a =>
        rw [hqj] at hof
        have hof' : Calls Yba.prog 22 #[.pointer (some ⟨P, 2, none⟩), .int .i64 (g j)] wr fun e w' => e = .returned (.int .i64 (a : Int)) ∧ ∃ n, w' = wr.drewN n := hof
        have haN := bvr.ix.lt _ _ hqj
        have haM : a < mt.length := by rw [bvr.ok.1]; omega
        have hml : mt.length ≤ 4096 := by rw [bvr.ok.1, Nat.mul_one]; exact Nat.le_trans bvr.ix.le hn
        have hcM := rowV_cell 0 bvr.rm a haM
        obtain ⟨z, S, u, V, c', g1, g2, g3, g4, g5, hV, hb, hc'⟩ := word_nums (ws'[j]?.getD 0) (mt[a]?.getD 0) false (st.lt.get _) (AllW.get bvr.ok.2.1 _)
        have HK : Hid (∀ k, KeepI f g n 1 w R ws (j + 1) (ws'.set (j + 1) V) ((wr.drewN k).setCell ⟨R, j + 1, none⟩ (u64v V))) := fun k => st.one hV (one_some hrj st.rr st.lt bvr.ok bvr.ix hqj (by omega) hV hb) k
        obtain ⟨x, hx⟩ : ∃ x, x = ws'[j]?.getD 0 := ⟨_, rfl⟩
        obtain ⟨y, hy⟩ : ∃ y, y = mt[a]?.getD 0 := ⟨_, rfl⟩
        rw [← hx] at g1 g2 g4 hxl ⊢
        rw [← hy] at g1 g4 hcM
        have g6 : IntKind.u64.wrap ((x : Int) + (z : Int)) = (S : Int) := by rw [IntKind.wrap_u64, ← g2]; simp
        have hcM' : wr.cell? ⟨mb, a, none⟩ = some (.int .u64 (y : Int)) := hcM
        have hand := u64_and_nat V (lastW n) hV (lastW_lt n)
        obtain ⟨t, ht⟩ : ∃ t, t = V &&& lastW n := ⟨_, rfl⟩
        rw [← ht] at hand
        have HY : Hid (t = V &&& lastW n) := ht
        clear hof st bvr hrj hqj HBV HB HI hx hy ht x2 x3 x4 x5 xf i1 i2 i3 x0 x1 g2 g3 hb hc' hcM
        by_cases hy0 : t = 0
        · subst hy0
          have hb : (((0 : Nat) : Int) == 0) = true := by rfl
          go_wp2_with (go_at_call 22; refine hof'.mono ?_; rintro e w5 ⟨rfl, n5, rfl⟩)
          go_ret
          exact HDONE.out V _ _ (HK.out _) (HGET.out V) HY.out.symm
        · have hb : ((t : Int) == 0) = false := by rw [beq_eq_false_iff_ne]; omega
          go_wp2_with (go_at_call 22; refine hof'.mono ?_; rintro e w5 ⟨rfl, n5, rfl⟩)
          go_roundw
          case rel => exact ⟨j + 1, _, hjm, by go_num, by rw [HGET.out V], HK.out _, .inr trivial⟩
          case measure => simp [intOf]; omega
    · obtain rfl : j = m := by omega
      have HD : Hid (KeepP f g n 1 j w R ws (.returned (.int .i64 j)) wr) := st.done (Nat.le_refl _) (fun h => absurd h (by omega)) (by omega)
      clear HBV HB HI st
      go_wp2_with fail
      go_ret
      exact HD.out
end Go.Proofs.Ybulkdwba.lawB

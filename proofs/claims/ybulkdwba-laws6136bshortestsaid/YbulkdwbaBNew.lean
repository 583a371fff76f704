/-
  FOR 'Rows.LawS6136BShortestSaid': newBitVectors: its contract.
-/
import Derived.Test.YbulkdwbaBVec
import Derived.Deep.CutBlock
import Derived.Deep.CutRange
namespace Go.Proofs.Ybulkdwba.lawB
open Go.ChangeShapes Go.WideShapes Go.ChangeAt Go.RowKit Go.Deep Go.Maps
open lawC (rowI rowI_cell rowI_frozen rowI_set made_rowI info3)
set_option linter.unusedVariables false

set_option maxRecDepth 100000 in
set_option maxHeartbeats 4000000 in
theorem newBV_any (A off n cap lk : Nat) (zs : List Int) (w : World) (hn0 : 0 < n) (hn : n ≤ 4096) (hlk : lk ≤ 4096) (hoff : off + n ≤ zs.length) (hA : w.heap[A]? = some (rowI zs)) (hs : ∀ z ∈ zs, Small z) :
    Calls Yba.prog 17 #[.slice (some ⟨A, off, none⟩) n cap, .int .i64 lk] w fun e w' => ∃ (P : Nat) (lo : Int) (p : Option Addr) (l c : Nat) (m : Option Nat) (N : Nat) (q : Int → Option Nat) (mb : Nat) (mt : List Nat),
      e = .returned (.pointer (some ⟨P, 0, none⟩)) ∧ BV w' P (lin zs off) n ((n + 63) / 64) lo (.slice p l c) (.map m) N q mb mt ∧ w.heap.size ≤ P ∧ w.heap.size ≤ mb ∧ Below w.heap.size w w' := by
  have hH : HoldI w A zs w := ⟨hA, Below.refl _ _⟩
  have hH0 : HoldI w A zs w.drew := ⟨hA, (Below.refl _ _).drew⟩
  have hsh := shift_last n hn0 hn
  go_enter Yba.func17, Yba.ntmps17
  go_upto_region 1 with fail
  go_region_held3 (fun w' => HoldI w A zs w')
    (first | exact hH0 | exact HoldI.below (by assumption) (by assumption) | (refine HoldI.below ((Below.refl _ _).alloc (Nat.le_refl _) _) ?_; assumption))
    (first | (go_at_call 21; refine (newIdx_sh A off n cap lk zs _ hn0 hn hlk hoff (And.left (by assumption : HoldI w A zs _)) hs).mono ?_; rintro e w1 ⟨lo, p, l, c, m, N, q, rfl, hlo, hiv, hix, hb1⟩))
  obtain ⟨W, hW⟩ : ∃ W, W = (n + 63) / 64 := ⟨_, rfl⟩
  have eW : IntKind.i64.wrap ((IntKind.i64.wrap ((n : Int) + 63)).tdiv 64) = (W : Int) := by
    rw [show IntKind.i64.wrap ((n : Int) + 63) = (n : Int) + 63 by rw [IntKind.wrap_i64]; omega, Int.tdiv_eq_ediv_of_nonneg (by omega), IntKind.wrap_i64]; omega
  rw [eW]
  have hH1 : HoldI w A zs w1 := HoldI.below hb1 hH0
  obtain ⟨w2, hw2⟩ : ∃ w2, w2 = w1.alloc (boxV W (lastW n) lo (.slice p l c) (.map m) N (.slice none 0 0)) := ⟨_, rfl⟩
  have hH2 : HoldI w A zs w2 := by rw [hw2]; exact HoldI.below ((Below.refl _ _).alloc (Nat.le_refl _) _) hH1
  have hiv2 : IdxV w2 lo (.slice p l c) (.map m) q := by rw [hw2]; exact hiv.below ((Below.refl _ _).alloc (Nat.le_refl _) _)
  have hbx : w2.heap[w1.heap.size]? = some (boxV W (lastW n) lo (.slice p l c) (.map m) N (.slice none 0 0)) := by rw [hw2]; exact heap_alloc_new _ _
  have hP : w.heap.size ≤ w1.heap.size := hH1.2.size
  obtain ⟨P, hPe⟩ : ∃ P, P = w1.heap.size := ⟨_, rfl⟩
  unfold boxV at hw2
  rw [← hw2]
  rw [← hPe] at hbx hP ⊢
  clear hw2 hPe hH1 hiv hb1 hH0 hH hsh
  obtain ⟨x0, x1, x2, x3, x4, x5, x6, xf⟩ := boxV_cell hbx
  have f6 := xf 6
  clear xf
  have hNW : N * W ≤ 300000 := by
    have h1 : N ≤ 4096 := Nat.le_trans hix.le hn
    have h2 : W ≤ 64 := by omega
    exact Nat.le_trans (Nat.mul_le_mul h1 h2) (by omega)
  obtain ⟨M, hM⟩ : ∃ M, M = N * W := ⟨_, rfl⟩
  have eM : IntKind.i64.wrap ((N : Int) * (W : Int)) = (M : Int) := by
    rw [show (N : Int) * (W : Int) = ((N * W : Nat) : Int) by simp, ← hM, IntKind.wrap_i64]; omega
  have eM' : wrap64 ((N : Int) * (W : Int)) = (M : Int) := (IntWalk.i64_left _).symm.trans eM
  rw [← hM] at hNW
  have hmk := make_words M (Nat.le_trans hNW (by decide))
  have hbx3 : (w2.alloc (rowU (List.replicate M 0))).drew.heap[P]? = some (boxV W (lastW n) lo (.slice p l c) (.map m) N (.slice none 0 0)) := (heap_alloc_old w2 _ (Array.getElem?_eq_some_iff.1 hbx).1).trans hbx
  have y0 := (boxV_cell hbx3).1
  have y5 := (boxV_cell hbx3).2.2.2.2.2.1
  have y6 := (boxV_cell hbx3).2.2.2.2.2.2.1
  have yf := (boxV_cell hbx3).2.2.2.2.2.2.2 6
  have hbx4 : ((w2.alloc (rowU (List.replicate M 0))).setCell ⟨P, 6, none⟩ (.slice (some ⟨w2.heap.size, 0, none⟩) M M)).drew.heap[P]? = some (boxV W (lastW n) lo (.slice p l c) (.map m) N (.slice (some ⟨w2.heap.size, 0, none⟩) M M)) := boxV_m (w := w2.alloc (rowU (List.replicate M 0))) hbx3 _
  have u0 := (boxV_cell hbx4).1
  have u5 := (boxV_cell hbx4).2.2.2.2.2.1
  have HM : Hid (M = N * W) := hM
  have HW : Hid (W = (n + 63) / 64) := hW
  clear hM hW
  go_upto_region 2 with fail
  go_region_held3 (fun w' => w'.cell? ⟨P, 5, none⟩ = some (.int .i64 N) ∧ w'.cell? ⟨P, 0, none⟩ = some (.int .i64 W)) (first | exact ⟨x5, x0⟩ | exact ⟨y5, y0⟩ | exact ⟨u5, u0⟩ | assumption) (fail)
  have HB : Hid (BVi w A zs P (lin zs off) n W 0 lo (.slice p l c) (.map m) N q w2.heap.size (List.replicate M 0) ((w2.alloc (rowU (List.replicate M 0))).setCell ⟨P, 6, none⟩ (.slice (some ⟨w2.heap.size, 0, none⟩) M M)).drew) := by
    have hPl : P < w2.heap.size := (Array.getElem?_eq_some_iff.1 hbx).1
    have hAl : A < w.heap.size := (Array.getElem?_eq_some_iff.1 hA).1
    have hg := grown_setCell (World.grownBy.refl (w2.alloc (rowU (List.replicate M 0))) (some P)) 6 (.slice (some ⟨w2.heap.size, 0, none⟩) M M)
    have hi3 : IdxV (w2.alloc (rowU (List.replicate M 0))) lo (.slice p l c) (.map m) q := hiv2.below ((Below.refl _ _).alloc (Nat.le_refl _) _)
    have h3 : HoldI w A zs (w2.alloc (rowU (List.replicate M 0))) := HoldI.below ((Below.refl _ _).alloc (Nat.le_refl _) _) hH2
    have hi4 := hi3.other (g := P) (t := 64) hbx3 (by decide) hg
    refine ⟨by rw [List.length_replicate]; exact hbx4, hi4, ?_, ?_, ⟨?_, (h3.2.setCell hP _).drew⟩, hP, hH2.2.size⟩
    · show ((w2.alloc (rowU (List.replicate M 0))).setCell ⟨P, 6, none⟩ (.slice (some ⟨w2.heap.size, 0, none⟩) M M)).heap[w2.heap.size]? = _
      rw [heap_setCell_other _ _ _ _ (by show w2.heap.size ≠ P; omega)]; exact heap_alloc_new _ _
    · rw [HM.out]; exact MtOk.zero _ _ _ _
    · show ((w2.alloc (rowU (List.replicate M 0))).setCell ⟨P, 6, none⟩ (.slice (some ⟨w2.heap.size, 0, none⟩) M M)).heap[A]? = _
      rw [heap_setCell_other _ _ _ _ (by show A ≠ P; omega)]; exact h3.1
  have hA' : A < w.heap.size := (Array.getElem?_eq_some_iff.1 hA).1
  clear x0 x1 x2 x3 x4 x5 x6 f6 y0 y5 y6 yf u0 u5 hbx3 hbx4 hmk hbx hH2 hiv2
  obtain ⟨mb, hmb⟩ : ∃ mb, mb = w2.heap.size := ⟨_, rfl⟩
  rw [← hmb] at HB ⊢
  obtain ⟨w4, hw4⟩ : ∃ w4, w4 = ((w2.alloc (rowU (List.replicate M 0))).setCell ⟨P, 6, none⟩ (.slice (some ⟨mb, 0, none⟩) M M)).drew := ⟨_, rfl⟩
  rw [← hw4] at HB ⊢
  clear hw4 hmb eM eM'
  go_wp2_with fail
  go_loopw [39] (fun v wr => ∃ (i : Nat) (mt : List Nat), i ≤ n ∧ v = .int .i64 i ∧ BVi w A zs P (lin zs off) n W i lo (.slice p l c) (.map m) N q mb mt wr) (fun v _ => n - (intOf v).toNat)
  case atStart => exact ⟨0, _, Nat.zero_le _, rfl, HB.out⟩
  case round =>
    clear HB
    obtain ⟨i, mt, hi, rfl, st⟩ := hrel
    by_cases hin : i < n
    · have hcA := rowI_cell st.hold.1 (off + i) (by omega)
      have hcA' : wr.cell? ⟨A, off + i, none⟩ = some (.int .i64 (lin zs off i)) := hcA
      have hsm : Small (lin zs off i) := hs _ (by unfold lin; rw [List.getElem?_eq_getElem (by omega)]; simp)
      obtain ⟨a, ha⟩ : ∃ a, q (lin zs off i) = some a := Option.isSome_iff_exists.1 ((hix.some _).2 ⟨i, hin, rfl⟩)
      have haN := hix.lt _ _ ha
      obtain ⟨x0, x1, x2, x3, x4, x5, x6, xf⟩ := boxV_cell st.bx
      have hset := fun k => (st.drewN k).set HW.out hin haN ha hA'
      have hWb : W ≤ 64 := by have := HW.out; omega
      have hiW : i / 64 < W := by have := HW.out; omega
      have hq : ∀ id a, q id = some a → a ≤ 4096 := fun id a h => Nat.le_of_lt (Nat.lt_of_lt_of_le (hix.lt id a h) (Nat.le_trans hix.le hn))
      have hlt : a * W + i / 64 < mt.length := by
        rw [st.ok.1]
        calc a * W + i / 64 < a * W + W := by omega
          _ = (a + 1) * W := by rw [Nat.add_mul, Nat.one_mul]
          _ ≤ N * W := Nat.mul_le_mul_right _ haN
      have haW : a * W ≤ 300000 := by
        have h1 := Nat.mul_le_mul (hq _ _ ha) hWb
        omega
      have hcM := rowV_cell 0 st.rm _ hlt
      have hfM := rowV_frozen st.rm (a * W + i / 64)
      have hxl : mt[a * W + i / 64]?.getD 0 < 18446744073709551616 := by rw [List.getElem?_eq_getElem hlt]; exact st.ok.2.1 _ (List.getElem_mem hlt)
      have hml : mt.length ≤ 300000 := by rw [st.ok.1, ← HM.out]; exact hNW
      have hne : P ≠ mb := fun e => by have h1 := st.bx; rw [e, st.rm] at h1; simp [boxV, rowV] at h1
      have z : ∀ (t : Nat) v (o : Nat), ((wr.setCell ⟨mb, t, none⟩ v)).cell? ⟨P, o, none⟩ = wr.cell? ⟨P, o, none⟩ := fun t v o => World.cell?_setCell_far _ _ _ _ (fun e => hne e.symm)
      have hiv := st.iv
      obtain ⟨e1, e1', e2, e2', e3, e3', e4, hd64, hr64⟩ := ix_arith a W i haW (by exact Nat.le_trans hi hn)
      obtain ⟨aW, haWe⟩ : ∃ aW, aW = a * W := ⟨_, rfl⟩
      obtain ⟨d, hd⟩ : ∃ d, d = i / 64 := ⟨_, rfl⟩
      obtain ⟨r, hr⟩ : ∃ r, r = i % 64 := ⟨_, rfl⟩
      obtain ⟨t, ht⟩ : ∃ t, t = aW + d := ⟨_, rfl⟩
      rw [← haWe, ← hd] at hcM hfM hlt hset hxl e4
      rw [← haWe] at haW e1 e1'
      rw [← hd] at e2 e2' hd64
      rw [← hr] at hset e3 e3' hr64
      rw [← ht] at e4
      obtain ⟨e5, e5'⟩ := wrap_small d (Nat.le_trans hd64 (by decide))
      rw [← ht] at hcM hfM hlt hset hxl
      obtain ⟨e6, e6'⟩ := wrap_small t (Nat.le_trans (Nat.le_of_lt hlt) (Nat.le_trans hml (by decide)))
      have hltI : (t : Int) < (mt.length : Int) := Int.ofNat_lt.2 hlt
      obtain ⟨x, hx⟩ : ∃ x, x = mt[t]?.getD 0 := ⟨_, rfl⟩
      rw [← hx] at hcM hset hxl
      have hcM' : wr.cell? ⟨mb, t, none⟩ = some (.int .u64 (x : Int)) := hcM
      have hshl := shl_run r hr64
      obtain ⟨Bt, hBt⟩ : ∃ Bt, Bt = 2 ^ r := ⟨_, rfl⟩
      have hBl : Bt < 18446744073709551616 := by rw [hBt]; exact Nat.lt_of_lt_of_eq (Nat.pow_lt_pow_right (by omega) hr64) rfl
      rw [← hBt] at hshl hset
      have hor := u64_or_nat x Bt hxl hBl
      have hw2 : IntKind.u64.wrap (2 ^ r) = (Bt : Int) := by rw [hBt]; exact pow_wrap r hr64
      obtain ⟨y, hy⟩ : ∃ y, y = x ||| Bt := ⟨_, rfl⟩
      rw [← hy] at hor hset
      have z0 : ∀ v, ((wr.setCell ⟨mb, t, none⟩ v).drew).cell? ⟨P, 0, none⟩ = some (.int .i64 W) := fun v => (z t v 0).trans x0
      have z6 : ∀ v, ((wr.setCell ⟨mb, t, none⟩ v).drew).cell? ⟨P, 6, none⟩ = some (.slice (some ⟨mb, 0, none⟩) mt.length mt.length) := fun v => (z t v 6).trans x6
      have HSET : Hid (∀ k, BVi w A zs P (lin zs off) n W (i + 1) lo (.slice p l c) (.map m) N q mb (mt.set t y) ((wr.drewN k).setCell ⟨mb, t, none⟩ (u64v y))) := hset
      have HVAL : Hid (bits .or .u64 (x : Int) (IntKind.u64.wrap (2 ^ r)) = (y : Int)) := by rw [hw2]; exact hor
      clear hor hw2 hBl hxl
      have HQ : Hid (∀ id a, q id = some a → a ≤ 4096) := hq
      clear hset st ht hx hy hBt hr hd haWe hcM z hq hne hcA xf
      go_upto_block 1 with fail
      go_cut [6, 7, 39] from 39 to 68 (fun v6 v7 v39 wc => v39 = .int .i64 i ∧ ∃ k, wc = (wr.drewN k).setCell ⟨mb, t, none⟩ (u64v y))
      case first =>
        go_upto_region 6 with fail
        go_region_with (go_at_call 22; refine (of_some P 2 lo (lin zs off i) (.slice p l c) (.map m) q a _ ha hlo hsm (by exact x2) (by exact x3) (by exact x4) (by exact hiv) HQ.out).mono ?_; rintro e w5 ⟨rfl, n5, rfl⟩)
        all_goals
          rw [HVAL.out]
          go_wp2_with fail
          go_meet
          case rel => exact ⟨rfl, _, rfl⟩
      case rest =>
        obtain ⟨rfl, k6, rfl⟩ := hcut
        clear hcA' hsm ha x0 x1 x2 x3 x4 x5 x6 hfM hiv e1 e1' e2 e2' e3 e3' e4 e5 e5' e6 e6' hltI hcM' hshl z0 z6 HVAL HQ
        go_wp2_with fail
        go_roundw
        case rel => exact ⟨i + 1, _, hin, by go_num, HSET.out _⟩
        case measure => simp [intOf]; omega
    · obtain rfl : i = n := by omega
      go_wp2_with fail
      go_ret
      have hWe := HW.out
      subst hWe
      exact ⟨P, lo, p, l, c, m, N, q, mb, mt, rfl, ⟨st.bx, hix, st.iv, hlo, st.rm, st.ok, rfl, hn0, hn⟩, hP, st.hm, st.hold.2⟩
end Go.Proofs.Ybulkdwba.lawB

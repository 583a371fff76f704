/-
  FOR 'Rows.LawS6136BShortestSaid': (*bitVectors).all, (*bitVectors).walk: their contracts.
-/
import Derived.Test.YbulkdwbaBStep
namespace Go.Proofs.Ybulkdwba.lawB
open Go.ChangeShapes Go.WideShapes Go.ChangeAt Go.RowKit Go.Deep Go.Maps
open lawC (rowI rowI_cell rowI_frozen rowI_set made_rowI info3)
set_option linter.unusedVariables false

theorem lastW_bit (n k : Nat) (hk : k ≤ (n - 1) % 64) : (lastW n).testBit k = true := by
  unfold lastW
  rw [Nat.testBit_div_two_pow, show (18446744073709551615 : Nat) = 2 ^ 64 - 1 by rfl, Nat.testBit_two_pow_sub_one]
  simp; omega
theorem lastW_lt (n : Nat) : lastW n < 18446744073709551616 := Nat.lt_of_le_of_lt (Nat.div_le_self _ _) (by decide)
/-- No bit of a line is set in the words of a row. -/
theorem all_law {f g : Nat → Int} {n W j o : Nat} {ws : List Nat} (hW : W = (n + 63) / 64) (hn0 : 0 < n) (hrow : RowAt f g n W ws o j) (h0 : ∀ t, t < W - 1 → ws[o + t]?.getD 0 = 0) (hl : (ws[o + (W - 1)]?.getD 0) &&& lastW n = 0) : L f g n j = n := by
  refine L_all (fun k hk => ?_)
  rw [← hrow k (by omega)]
  unfold bitAt
  by_cases h : k / 64 < W - 1
  · rw [h0 _ h]; simp
  · rw [show k / 64 = W - 1 by omega]
    have h1 : ((ws[o + (W - 1)]?.getD 0) &&& lastW n).testBit (k % 64) = false := by rw [hl]; simp
    rw [Nat.testBit_and, lastW_bit n _ (by omega), Bool.and_true] at h1
    exact h1

set_option maxRecDepth 100000 in
set_option maxHeartbeats 1000000 in
theorem all_any (P : Nat) (f g : Nat → Int) (n W : Nat) (lo : Int) (dv sv : Value) (N : Nat) (q : Int → Option Nat) (mb : Nat) (mt : List Nat) (R o cp j : Nat) (ws : List Nat) (w : World)
    (bv : BV w P f n W lo dv sv N q mb mt) (hR : w.heap[R]? = some (rowU ws)) (hlt : AllW ws) (hlen : ws.length ≤ 1000000) (h1 : o + W ≤ ws.length) (hcp : W ≤ cp) (hrow : RowAt f g n W ws o j) :
    Calls Yba.prog 24 #[.pointer (some ⟨P, 0, none⟩), .slice (some ⟨R, o, none⟩) W cp] w fun e w' => ∃ b, e = .returned (.bool b) ∧ (b = true → L f g n j = n) ∧ ∃ k, w' = w.drewN k := by
  obtain ⟨x0, x1, x2, x3, x4, x5, x6, xf⟩ := boxV_cell bv.bx
  have hn := bv.hn
  have hW := bv.hW
  have hn0 := bv.hn0
  have hWb : W ≤ 64 := by omega
  have hW0 : 0 < W := by omega
  have hlaw := all_law (o := o) hW hn0 hrow
  obtain ⟨V, hV⟩ : ∃ V, W = V + 1 := ⟨W - 1, by omega⟩
  subst hV
  have HLAW : Hid ((∀ t, t < V → ws[o + t]?.getD 0 = 0) → (ws[o + V]?.getD 0) &&& lastW n = 0 → L f g n j = n) := hlaw
  clear hlaw hrow hW xf x2 x3 x4 x5 x6 x0 bv
  go_enter Yba.func24, Yba.ntmps24
  go_wp2_with fail
  go_loopw [13] (fun v wr => ∃ (i : Nat), i ≤ V ∧ v = .int .i64 i ∧ (∀ t, t < i → ws[o + t]?.getD 0 = 0) ∧ ∃ k, wr = w.drewN k) (fun v _ => V - (intOf v).toNat)
  case atStart => exact ⟨0, Nat.zero_le _, rfl, fun t ht => absurd ht (by omega), 0, rfl⟩
  case round =>
    obtain ⟨i, hi, rfl, hz, k, rfl⟩ := hrel
    by_cases hiV : i < V
    · have hc : w.cell? ⟨R, o + i, none⟩ = some (.int .u64 ((ws[o + i]?.getD 0 : Nat) : Int)) := rowV_cell 0 hR (o + i) (by omega)
      by_cases hx : ws[o + i]?.getD 0 = 0
      · rw [hx] at hc
        have hc' : w.cell? ⟨R, o + i, none⟩ = some (.int .u64 0) := hc
        have HZ : Hid (∀ t, t < i + 1 → ws[o + t]?.getD 0 = 0) := fun t ht => by
          by_cases e : t = i
          · rw [e]; exact hx
          · exact hz t (by omega)
        clear hc hx hz
        go_wp2_with fail
        go_roundw
        case rel => exact ⟨i + 1, hiV, by go_num, HZ.out, _, rfl⟩
        case measure => simp [intOf]; omega
      · have hxl := hlt.get (o + i)
        obtain ⟨x, hxe⟩ : ∃ x, x = ws[o + i]?.getD 0 := ⟨_, rfl⟩
        rw [← hxe] at hc hx hxl
        have hb : ((x : Int) == 0) = false := by rw [beq_eq_false_iff_ne]; omega
        have hb' : ((x : Int) != 0) = true := by simp; omega
        clear hz hxe
        go_wp2_with fail
        go_ret
        exact ⟨false, rfl, fun h => by simp at h, _, rfl⟩
    · obtain rfl : i = V := by omega
      have hc : w.cell? ⟨R, o + i, none⟩ = some (.int .u64 ((ws[o + i]?.getD 0 : Nat) : Int)) := rowV_cell 0 hR (o + i) (by omega)
      have hxl := hlt.get (o + i)
      have HL : Hid ((ws[o + i]?.getD 0) &&& lastW n = 0 → L f g n j = n) := HLAW.out hz
      obtain ⟨x, hxe⟩ : ∃ x, x = ws[o + i]?.getD 0 := ⟨_, rfl⟩
      rw [← hxe] at hc hxl HL
      have hand := u64_and_nat x (lastW n) hxl (lastW_lt n)
      obtain ⟨y, hy⟩ : ∃ y, y = x &&& lastW n := ⟨_, rfl⟩
      rw [← hy] at hand HL
      clear hz hxe hy
      go_wp2_with fail
      go_quiet (fail)
      go_wp2_with fail
      go_ret
      refine ⟨_, rfl, fun h => HL.out ?_, _, World.drewN_drewN ..⟩
      have := beq_iff_eq.1 h
      omega

theorem mul_arith (r W X Y : Nat) (hX : X = r * W) (hY : Y = X + W) (h : Y ≤ 300000) : IntKind.i64.wrap ((r : Int) * (W : Int)) = (X : Int) ∧ wrap64 ((r : Int) * (W : Int)) = (X : Int) ∧ IntKind.i64.wrap (((r : Int) + 1) * (W : Int)) = (Y : Int) ∧ wrap64 (((r : Int) + 1) * (W : Int)) = (Y : Int) := by
  have e : (r + 1) * W = r * W + W := by rw [Nat.add_mul, Nat.one_mul]
  have hX' : r * W ≤ 300000 := by omega
  have hY' : (r + 1) * W ≤ 300000 := by omega
  have h1 := ix_arith r W 0 hX' (by omega)
  have h2 := ix_arith (r + 1) W 0 hY' (by omega)
  rw [← hX] at h1
  rw [e, ← hX, ← hY] at h2
  exact ⟨h1.1, h1.2.1, h2.1, h2.2.1⟩

/-- What a walk leaves: d rows from o1 on, after j + 1, j + 2, .. lines. -/
structure WalkP (f g : Nat → Int) (n W j d : Nat) (w : World) (R o1 : Nat) (ws : List Nat) (ws' : List Nat) (w' : World) : Prop where
  rr : w'.heap[R]? = some (rowU ws')
  len : ws'.length = ws.length
  lt : AllW ws'
  out : ∀ t, (t < o1 ∨ o1 + d * W ≤ t) → ws'[t]? = ws[t]?
  rows : ∀ r, r < d → RowAt f g n W ws' (o1 + r * W) (j + r + 1)
  gr : w.grownBy w' (some R)
theorem WalkP.start {f g : Nat → Int} {n W j : Nat} {w : World} {R o1 : Nat} {ws : List Nat} (hR : w.heap[R]? = some (rowU ws)) (hlt : AllW ws) : WalkP f g n W j 0 w R o1 ws ws w :=
  ⟨hR, rfl, hlt, fun _ _ => rfl, fun r hr => absurd hr (by omega), World.grownBy.refl _ _⟩
theorem WalkP.step {f g : Nat → Int} {n W j d : Nat} {w : World} {R o1 : Nat} {ws ws' : List Nat} {w1 : World} {w2 : World} {k : Nat} (s : WalkP f g n W j d w R o1 ws ws' w1) {ws2 : List Nat} (h1 : w2.heap[R]? = some (rowU ws2)) (h2 : ws2.length = ws'.length) (h3 : AllW ws2)
    (h4 : ∀ t, (t < o1 + d * W ∨ o1 + d * W + W ≤ t) → ws2[t]? = ws'[t]?) (h5 : RowAt f g n W ws2 (o1 + d * W) (j + d + 1)) (h6 : (w1.drewN k).grownBy w2 (some R)) : WalkP f g n W j (d + 1) w R o1 ws ws2 w2 := by
  have e : (d + 1) * W = d * W + W := by rw [Nat.add_mul, Nat.one_mul]
  refine ⟨h1, h2.trans s.len, h3, fun t ht => ?_, fun r hr => ?_, grown_trans (grown_drewN s.gr k) h6⟩
  · rw [e] at ht
    rw [h4 t (by omega), s.out t (by omega)]
  · by_cases hrd : r = d
    · subst hrd; exact h5
    · have hr1 : (r + 1) * W ≤ d * W := Nat.mul_le_mul_right _ (by omega)
      have hr2 : (r + 1) * W = r * W + W := by rw [Nat.add_mul, Nat.one_mul]
      exact (s.rows r (by omega)).keep (fun t ht => h4 _ (by omega))

set_option maxRecDepth 100000 in
set_option maxHeartbeats 1000000 in
theorem walk_any (P : Nat) (f g : Nat → Int) (n W : Nat) (lo : Int) (p : Option Addr) (l c : Nat) (m : Option Nat) (N : Nat) (q : Int → Option Nat) (mb : Nat) (mt : List Nat) (R o1 lr cr o2 c2 B bo d cB j : Nat) (zs : List Int) (ws : List Nat) (w : World)
    (bv : BV w P f n W lo (.slice p l c) (.map m) N q mb mt) (hR : w.heap[R]? = some (rowU ws)) (hB : w.heap[B]? = some (rowI zs)) (hmb : R ≠ mb) (hlt : AllW ws) (hlen : ws.length ≤ 1000000) (hd : d ≤ 4096) (h1 : o1 + d * W ≤ ws.length) (h2 : o2 + W ≤ ws.length) (hap : o2 + W ≤ o1 ∨ o1 + d * W ≤ o2)
    (hcr : d * W ≤ cr) (hids : ∀ k, k < d → bo + k < zs.length ∧ zs[bo + k]?.getD 0 = g (j + k) ∧ Small (g (j + k))) (hrow : RowAt f g n W ws o2 j) :
    Calls Yba.prog 20 #[.pointer (some ⟨P, 0, none⟩), .slice (some ⟨R, o1, none⟩) lr cr, .slice (some ⟨R, o2, none⟩) W c2, .slice (some ⟨B, bo, none⟩) d cB] w fun e w' => e = .returned (.tuple #[]) ∧ ∃ ws', WalkP f g n W j d w R o1 ws ws' w' := by
  have hWb : W ≤ 64 := by have := bv.hW; have := bv.hn; omega
  have hW0 : 0 < W := by have := bv.hW; have := bv.hn0; omega
  have HBV : Hid (∀ wr k, w.grownBy wr (some R) → BV (wr.drewN k) P f n W lo (.slice p l c) (.map m) N q mb mt) := fun wr k h => bv.words hR hmb (grown_drewN h k)
  have HB : Hid (∀ wr, w.grownBy wr (some R) → wr.heap[B]? = some (rowI zs)) := fun wr h => (h.block B (Array.getElem?_eq_some_iff.1 hB).1 (by intro e; cases e; rw [hR] at hB; simp [rowV, rowI] at hB)).trans hB
  have HS : Hid (WalkP f g n W j 0 w R o1 ws ws w) := WalkP.start hR hlt
  have HI : Hid (∀ k, k < d → bo + k < zs.length ∧ zs[bo + k]?.getD 0 = g (j + k) ∧ Small (g (j + k))) := hids
  have HR : Hid (RowAt f g n W ws o2 j) := hrow
  have HLEN : Hid (ws.length ≤ 1000000) := hlen
  obtain ⟨D, hD⟩ : ∃ D, D = d * W := ⟨_, rfl⟩
  rw [← hD] at h1 hap hcr
  have HD : Hid (D = d * W) := hD
  clear hids hrow bv hR hB hlen hD
  go_enter Yba.func20, Yba.ntmps20
  go_wp2_with fail
  go_loopw [2, 13] (fun vv v wr => ∃ (r ov cv : Nat) (ws' : List Nat), r ≤ d ∧ v = .int .i64 r ∧ vv = .slice (some ⟨R, ov, none⟩) W cv ∧ ov + W ≤ ws.length ∧ (ov + W ≤ o1 + r * W ∨ o1 + D ≤ ov) ∧ RowAt f g n W ws' ov (j + r) ∧ WalkP f g n W j r w R o1 ws ws' wr) (fun _ v _ => d - (intOf v).toNat)
  case atStart => exact ⟨0, o2, c2, ws, Nat.zero_le _, rfl, rfl, h2, by omega, HR.out, HS.out⟩
  case round =>
    obtain ⟨r, ov, cv, ws', hr, rfl, rfl, hov, hov2, hrow, st⟩ := hrel
    by_cases hrd : r < d
    · obtain ⟨i1, i2, i3⟩ := HI.out r hrd
      have hc := rowI_cell (HB.out wr st.gr) (bo + r) i1
      rw [i2] at hc
      have hbx := fun k => (HBV.out wr k st.gr).bx
      obtain ⟨x0, _⟩ := boxV_cell (hbx 0)
      have x0' : wr.cell? ⟨P, 0, none⟩ = some (.int .i64 W) := x0
      have e : (r + 1) * W = r * W + W := by rw [Nat.add_mul, Nat.one_mul]
      have hle : r * W + W ≤ D := by rw [HD.out, ← e]; exact Nat.mul_le_mul_right _ hrd
      have hrl : r * W + W ≤ 300000 := by
        have := Nat.mul_le_mul (show r + 1 ≤ 4096 by omega) hWb
        omega
      have HST : Hid (∀ (w2 : World) (ws2 : List Nat) k, w2.heap[R]? = some (rowU ws2) → ws2.length = ws'.length → AllW ws2 → (∀ t, (t < o1 + r * W ∨ o1 + r * W + W ≤ t) → ws2[t]? = ws'[t]?) → RowAt f g n W ws2 (o1 + r * W) (j + r + 1) → (wr.drewN k).grownBy w2 (some R) → WalkP f g n W j (r + 1) w R o1 ws ws2 w2) := fun w2 ws2 k a1 a2 a3 a4 a5 a6 => st.step a1 a2 a3 a4 a5 a6
      have HREL : Hid (o1 + r * W + W ≤ o1 + (r + 1) * W) := by rw [e]; exact Nat.le_of_eq (by omega)
      have HCALL : Hid (∀ k, Calls Yba.prog 23 #[.pointer (some ⟨P, 0, none⟩), .slice (some ⟨R, o1 + r * W, none⟩) W (cr - r * W), .slice (some ⟨R, ov, none⟩) W cv, .int .i64 (g (j + r))] (wr.drewN k) fun e w' => e = .returned (.tuple #[]) ∧ StepP f g n W (j + r) (wr.drewN k) R (o1 + r * W) ws' w') := fun k => by
        have h3 := HLEN.out
        have h4 := st.len
        exact step_any P f g n W lo p l c m N q mb mt R (o1 + r * W) (cr - r * W) ov cv (j + r) ws' (wr.drewN k) (HBV.out wr k st.gr) st.rr hmb st.lt (by omega) (by omega) (by omega) (by omega) (by omega) i3 hrow
      have HLE : Hid (o1 + r * W + W ≤ ws.length) := by show o1 + r * W + W ≤ ws.length; omega
      obtain ⟨X, hX⟩ : ∃ X, X = r * W := ⟨_, rfl⟩
      obtain ⟨Y, hY⟩ : ∃ Y, Y = X + W := ⟨_, rfl⟩
      rw [← hX] at HST HCALL HREL HLE hle hrl
      rw [← hY] at hle hrl
      have y1 : Y - X = W := by omega
      have y2 : X ≤ Y := by omega
      have y3 : ¬ cr = X := by omega
      have y4 : Y ≤ cr := by omega
      obtain ⟨e1, e1', e2, e2'⟩ := mul_arith r W X Y hX hY hrl
      clear hov hov2 hrow st HBV HB HS HI HR HLEN HD hX hY i1 i2 i3 hbx e x0 hap h1 h2 hlt
      go_wp2_with fail
      go_quiet (fail)
      go_wp2_with (go_at_call 23; refine (HCALL.out _).mono ?_; rintro e w5 ⟨rfl, ws2, a1, a2, a3, a4, a5, a6⟩)
      go_roundw
      case rel => exact ⟨r + 1, _, _, ws2, hrd, by go_num, rfl, HLE.out, .inl HREL.out, a5, HST.out _ _ _ a1 a2 a3 a4 a5 a6⟩
      case measure => simp [intOf]; omega
    · obtain rfl : r = d := by omega
      go_wp2_with fail
      go_end0
      exact ⟨rfl, ws', st⟩
end Go.Proofs.Ybulkdwba.lawB

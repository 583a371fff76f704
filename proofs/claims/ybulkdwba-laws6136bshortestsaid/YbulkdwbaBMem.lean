/-
  FOR 'Rows.LawS6136BShortestSaid': rows of words in memory; one step of a row, plainly.
-/
import Derived.Test.YbulkdwbaBVec
import Derived.Laws.IdiomCopy
namespace Go.Proofs.Ybulkdwba.lawB
open Go.ChangeShapes Go.WideShapes Go.ChangeAt Go.RowKit Go.Deep Go.Maps
open lawC (rowI rowI_cell rowI_frozen rowI_set made_rowI info3)
set_option linter.unusedVariables false

theorem bitAt_word (ws : List Nat) (o i k : Nat) (hk : k < 64) : bitAt ws o (64 * i + k) = (ws[o + i]?.getD 0).testBit k := by
  unfold bitAt
  rw [show (64 * i + k) / 64 = i by omega, show (64 * i + k) % 64 = k by omega]
theorem bitAt_congr {ws ws' : List Nat} {o W : Nat} (h : ∀ t, t < W → ws'[o + t]? = ws[o + t]?) (k : Nat) (hk : k < 64 * W) : bitAt ws' o k = bitAt ws o k := by
  unfold bitAt
  rw [h (k / 64) (by omega)]
/-- The W words from o on are the row after j lines. -/
def RowAt (f g : Nat → Int) (n W : Nat) (ws : List Nat) (o j : Nat) : Prop := ∀ k, k < 64 * W → bitAt ws o k = rb f g n j k
theorem RowAt.keep {f g : Nat → Int} {n W : Nat} {ws ws' : List Nat} {o j : Nat} (h : RowAt f g n W ws o j) (e : ∀ t, t < W → ws'[o + t]? = ws[o + t]?) : RowAt f g n W ws' o j :=
  fun k hk => (bitAt_congr e k hk).trans (h k hk)
def AllW (ws : List Nat) : Prop := ∀ x ∈ ws, x < 18446744073709551616
theorem AllW.get {ws : List Nat} (h : AllW ws) (t : Nat) : ws[t]?.getD 0 < 18446744073709551616 := by
  by_cases ht : t < ws.length
  · rw [List.getElem?_eq_getElem ht]; exact h _ (List.getElem_mem ht)
  · rw [List.getElem?_eq_none (by omega)]; decide
theorem AllW.set {ws : List Nat} (h : AllW ws) (t : Nat) {x : Nat} (hx : x < 18446744073709551616) : AllW (ws.set t x) := fun y hy => by
  rcases List.mem_or_eq_of_mem_set hy with hy | hy
  · exact h y hy
  · rw [hy]; exact hx

/-- Words laid from o on. -/
def putW : List Nat → Nat → List Nat → List Nat
  | ws, _, [] => ws
  | ws, o, x :: r => putW (ws.set o x) (o + 1) r
theorem putW_len : ∀ (xs ws : List Nat) (o : Nat), (putW ws o xs).length = ws.length
  | [], _, _ => rfl
  | x :: r, ws, o => by rw [putW, putW_len]; simp
theorem putW_out : ∀ (xs ws : List Nat) (o t : Nat), (t < o ∨ o + xs.length ≤ t) → (putW ws o xs)[t]? = ws[t]?
  | [], _, _, _, _ => rfl
  | x :: r, ws, o, t, h => by
    simp only [List.length_cons] at h
    rw [putW, putW_out r _ _ _ (by omega), List.getElem?_set_ne (by omega)]
theorem putW_in : ∀ (xs ws : List Nat) (o i : Nat), i < xs.length → o + xs.length ≤ ws.length → (putW ws o xs)[o + i]? = xs[i]?
  | x :: r, ws, o, 0, _, h => by
    simp only [List.length_cons] at h
    rw [putW, putW_out r _ _ _ (by omega), Nat.add_zero, List.getElem?_set_self (by omega)]; rfl
  | x :: r, ws, o, i + 1, hi, h => by
    simp only [List.length_cons] at h hi
    rw [putW, show o + (i + 1) = o + 1 + i by omega, putW_in r _ _ i (by omega) (by simp; omega)]; rfl
theorem putW_all : ∀ (xs ws : List Nat) (o : Nat), AllW ws → AllW xs → AllW (putW ws o xs)
  | [], _, _, h, _ => h
  | x :: r, ws, o, h, hx => by
    rw [putW]
    exact putW_all r _ _ (h.set _ (hx x (by simp))) (fun y hy => hx y (by simp [hy]))
theorem setCells_rowU (R : Nat) : ∀ (xs ws : List Nat) (o : Nat) (w : World), w.heap[R]? = some (rowU ws) → (w.setCells R o (xs.map u64v)).heap[R]? = some (rowU (putW ws o xs)) ∧ w.grownBy (w.setCells R o (xs.map u64v)) (some R)
  | [], ws, o, w, h => ⟨h, World.grownBy.refl _ _⟩
  | x :: r, ws, o, w, h => by
    have h1 := rowV_set h o x
    obtain ⟨h2, h3⟩ := setCells_rowU R r (ws.set o x) (o + 1) _ h1
    refine ⟨h2, ?_⟩
    have hg := grown_setCell (World.grownBy.refl w (some R)) o (u64v x)
    exact ⟨h3.os.trans hg.os, h3.tape.trans hg.tape, h3.output.trans hg.output, Nat.le_trans hg.size h3.size, fun k hk hne => (h3.block k (Nat.lt_of_lt_of_le hk hg.size) hne).trans (hg.block k hk hne)⟩
theorem grown_trans {a b c : World} {r : Option Nat} (hg : a.grownBy b r) (h3 : b.grownBy c r) : a.grownBy c r :=
  ⟨h3.os.trans hg.os, h3.tape.trans hg.tape, h3.output.trans hg.output, Nat.le_trans hg.size h3.size, fun k hk hne => (h3.block k (Nat.lt_of_lt_of_le hk hg.size) hne).trans (hg.block k hk hne)⟩

theorem BV.grown {w w' : World} {P : Nat} {f : Nat → Int} {n W : Nat} {lo : Int} {dv sv : Value} {N : Nat} {q : Int → Option Nat} {mb : Nat} {mt : List Nat} (b : BV w P f n W lo dv sv N q mb mt) {R : Nat} {cs : Array Value} {t : TypeId} (hR : w.heap[R]? = some (.cells cs t)) (h21 : t ≠ 21) (hP : R ≠ P) (hm : R ≠ mb) (hg : w.grownBy w' (some R)) : BV w' P f n W lo dv sv N q mb mt :=
  ⟨(hg.block P (Array.getElem?_eq_some_iff.1 b.bx).1 (by intro e; cases e; exact hP rfl)).trans b.bx, b.ix, b.iv.other hR h21 hg, b.slo, (hg.block mb (Array.getElem?_eq_some_iff.1 b.rm).1 (by intro e; cases e; exact hm rfl)).trans b.rm, b.ok, b.hW, b.hn0, b.hn⟩
theorem BV.words {w w' : World} {P : Nat} {f : Nat → Int} {n W : Nat} {lo : Int} {dv sv : Value} {N : Nat} {q : Int → Option Nat} {mb : Nat} {mt : List Nat} (b : BV w P f n W lo dv sv N q mb mt) {R : Nat} {ws : List Nat} (hR : w.heap[R]? = some (rowU ws)) (hm : R ≠ mb) (hg : w.grownBy w' (some R)) : BV w' P f n W lo dv sv N q mb mt :=
  b.grown hR (by decide) (fun e => by have h1 := b.bx; rw [← e, hR] at h1; simp [boxV, rowV] at h1) hm hg

theorem nb_congr {v m v' m' : Nat → Bool} (c : Bool) (k : Nat) (h : ∀ i, i ≤ k → v i = v' i ∧ m i = m' i) : nb v m c k = nb v' m' c k := by
  unfold nb
  have := h k (Nat.le_refl _)
  rw [this.1, this.2, cb_congr c k (fun i hi => h i (by omega))]
/-- One word of a row's step. -/
theorem nb_word {v m : Nat → Bool} {i x y : Nat} {c : Bool} (hv : ∀ k, k < 64 → v (64 * i + k) = x.testBit k) (hm : ∀ k, k < 64 → m (64 * i + k) = y.testBit k) (hc : c = cb v m false (64 * i)) :
    (∀ k, k < 64 → nb (fun k => x.testBit k) (fun k => y.testBit k) c k = nb v m false (64 * i + k)) ∧ cb (fun k => x.testBit k) (fun k => y.testBit k) c 64 = cb v m false (64 * (i + 1)) := by
  have h : ∀ k, k ≤ 64 → cb (fun k => x.testBit k) (fun k => y.testBit k) c k = cb v m false (64 * i + k) := fun k hk => by
    rw [← cb_shift, ← hc]
    exact cb_congr c k (fun t ht => ⟨(hv t (by omega)).symm, (hm t (by omega)).symm⟩)
  refine ⟨fun k hk => ?_, by rw [h 64 (by omega)]; rfl⟩
  unfold nb
  rw [h k (by omega), hv k hk, hm k hk]

/-- A step under way: i words are laid. -/
structure StepI (w : World) (R o1 : Nat) (ws : List Nat) (v m : Nat → Bool) (i : Nat) (ws' : List Nat) (wr : World) : Prop where
  rr : wr.heap[R]? = some (rowU ws')
  len : ws'.length = ws.length
  lt : AllW ws'
  out : ∀ t, (t < o1 ∨ o1 + i ≤ t) → ws'[t]? = ws[t]?
  bits : ∀ k, k < 64 * i → bitAt ws' o1 k = nb v m false k
  gr : w.grownBy wr (some R)
theorem StepI.start {w : World} {R o1 : Nat} {ws : List Nat} {v m : Nat → Bool} (hR : w.heap[R]? = some (rowU ws)) (hlt : AllW ws) : StepI w R o1 ws v m 0 ws w :=
  ⟨hR, rfl, hlt, fun _ _ => rfl, fun k hk => absurd hk (by omega), World.grownBy.refl _ _⟩
theorem StepI.drewN {w : World} {R o1 : Nat} {ws : List Nat} {v m : Nat → Bool} {i : Nat} {ws' : List Nat} {wr : World} (s : StepI w R o1 ws v m i ws' wr) (k : Nat) : StepI w R o1 ws v m i ws' (wr.drewN k) :=
  ⟨s.rr, s.len, s.lt, s.out, s.bits, grown_drewN s.gr k⟩
theorem StepI.set {w : World} {R o1 : Nat} {ws : List Nat} {v m : Nat → Bool} {i : Nat} {ws' : List Nat} {wr : World} (s : StepI w R o1 ws v m i ws' wr) {V : Nat} (hV : V < 18446744073709551616) (hi : o1 + i < ws.length)
    (hb : ∀ k, k < 64 → V.testBit k = nb v m false (64 * i + k)) : StepI w R o1 ws v m (i + 1) (ws'.set (o1 + i) V) (wr.setCell ⟨R, o1 + i, none⟩ (u64v V)) := by
  refine ⟨rowV_set s.rr _ _, by rw [List.length_set]; exact s.len, s.lt.set _ hV, fun t ht => ?_, fun k hk => ?_, grown_setCell s.gr _ _⟩
  · rw [List.getElem?_set_ne (by omega)]; exact s.out t (by omega)
  · by_cases hk' : k < 64 * i
    · rw [bitAt_congr (W := i) (ws := ws') (fun t ht => by rw [List.getElem?_set_ne (by omega)]) k hk']; exact s.bits k hk'
    · obtain ⟨d, rfl⟩ : ∃ d, k = 64 * i + d := ⟨k - 64 * i, by omega⟩
      rw [bitAt_word _ _ _ _ (by omega), List.getElem?_set_self (by rw [s.len]; exact hi)]
      exact hb d (by omega)

/-- What a step leaves. -/
def StepP (f g : Nat → Int) (n W j : Nat) (w : World) (R o1 : Nat) (ws : List Nat) (w' : World) : Prop :=
  ∃ ws', w'.heap[R]? = some (rowU ws') ∧ ws'.length = ws.length ∧ AllW ws' ∧ (∀ t, (t < o1 ∨ o1 + W ≤ t) → ws'[t]? = ws[t]?) ∧ RowAt f g n W ws' o1 (j + 1) ∧ w.grownBy w' (some R)
theorem StepI.done {w : World} {R o1 o2 : Nat} {ws mt : List Nat} {W a N : Nat} {q : Int → Option Nat} {f g : Nat → Int} {n j : Nat} {ws' : List Nat} {wr : World} (s : StepI w R o1 ws (bitAt ws o2) (bitAt mt (a * W)) W ws' wr)
    (hrow : RowAt f g n W ws o2 j) (hm : MtOk f n N W q mt) (hix : Ix f n N q) (ha : q (g j) = some a) : StepP f g n W j w R o1 ws wr := by
  refine ⟨ws', s.rr, s.len, s.lt, s.out, fun k hk => ?_, s.gr⟩
  rw [s.bits k hk, ← nb_row]
  refine nb_congr false k (fun i hi => ⟨hrow i (by omega), ?_⟩)
  rw [hm.2.2 a i (hix.lt _ _ ha) (by omega)]
  congr 1
  rw [Bool.eq_iff_iff]; simp only [decide_eq_true_eq]
  exact ⟨fun h => hix.inj _ _ _ h ha, fun h => by rw [h]; exact ha⟩
/-- One word's numbers. -/
theorem word_nums (x y : Nat) (c : Bool) (hx : x < 18446744073709551616) (hy : y < 18446744073709551616) : ∃ (z S u V : Nat) (c' : Bool), bits .and .u64 (x : Int) (y : Int) = (z : Int) ∧ ((x : Int) + (z : Int) + (c.toNat : Int)) % 18446744073709551616 = (S : Int) ∧
    ((x : Int) + (z : Int) + (c.toNat : Int)) / 18446744073709551616 = (c'.toNat : Int) ∧ bits .andNot .u64 (x : Int) (y : Int) = (u : Int) ∧ bits .or .u64 (S : Int) (u : Int) = (V : Int) ∧ V < 18446744073709551616 ∧
    (∀ k, k < 64 → V.testBit k = nb (fun k => x.testBit k) (fun k => y.testBit k) c k) ∧ c' = cb (fun k => x.testBit k) (fun k => y.testBit k) c 64 := by
  obtain ⟨h1, h2⟩ := word_step x y c hx hy
  have hS : (x + (x &&& y) + c.toNat) % 18446744073709551616 < 18446744073709551616 := Nat.mod_lt _ (by decide)
  have hu : x &&& (18446744073709551615 - y) < 18446744073709551616 := Nat.lt_of_le_of_lt Nat.and_le_left hx
  refine ⟨x &&& y, (x + (x &&& y) + c.toNat) % 18446744073709551616, x &&& (18446744073709551615 - y), _, cb (fun k => x.testBit k) (fun k => y.testBit k) c 64, u64_and_nat x y hx hy, ?_, ?_, u64_andNot_nat x y hx hy, u64_or_nat _ _ hS hu, ?_, h1, rfl⟩
  · generalize x &&& y = z; omega
  · rw [← h2]; generalize x &&& y = z; omega
  · have := Nat.or_lt_two_pow (n := 64) (by simpa using hS) (by simpa using hu)
    simpa using this
end Go.Proofs.Ybulkdwba.lawB

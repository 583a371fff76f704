/-
  FOR 'Rows.LawS6136BShortestSaid': rows of bits, the match table.
-/
import Derived.Test.YbulkdwbaBIndex
import Derived.Deep.RegionHeld3
namespace Go.Proofs.Ybulkdwba.lawB
open Go.ChangeShapes Go.WideShapes Go.ChangeAt Go.RowKit Go.Deep Go.Maps
open lawC (rowI rowI_cell rowI_frozen rowI_set made_rowI info3)
set_option linter.unusedVariables false

/-- Bit k of the words from o on. -/
def bitAt (ws : List Nat) (o k : Nat) : Bool := (ws[o + k / 64]?.getD 0).testBit (k % 64)
/-- The bits of the last word that stand for lines. -/
def lastW (n : Nat) : Nat := 18446744073709551615 / 2 ^ (63 - (n - 1) % 64)
def boxV (W last : Nat) (lo : Int) (dv sv : Value) (N : Nat) (mv : Value) : Obj := .cells #[.int .i64 W, .int .u64 last, .int .i64 lo, dv, sv, .int .i64 N, mv] 64
theorem boxV_cell {w : World} {g W last : Nat} {lo : Int} {dv sv mv : Value} {N : Nat} (h : w.heap[g]? = some (boxV W last lo dv sv N mv)) :
    w.cell? ⟨g, 0, none⟩ = some (.int .i64 W) ∧ w.cell? ⟨g, 1, none⟩ = some (.int .u64 last) ∧ w.cell? ⟨g, 2, none⟩ = some (.int .i64 lo) ∧ w.cell? ⟨g, 3, none⟩ = some dv ∧ w.cell? ⟨g, 4, none⟩ = some sv ∧ w.cell? ⟨g, 5, none⟩ = some (.int .i64 N) ∧ w.cell? ⟨g, 6, none⟩ = some mv ∧ ∀ o, w.frozen? ⟨g, o, none⟩ = false := by
  unfold boxV at h
  have e : ∀ f : Nat, w.cell? ⟨g, f, none⟩ = #[.int .i64 W, .int .u64 last, .int .i64 lo, dv, sv, .int .i64 N, mv][f]? := fun f => cell_of_row w g f _ 64 (0, 0) h
  exact ⟨e 0, e 1, e 2, e 3, e 4, e 5, e 6, fun o => frozen_of_row w g o _ 64 h⟩
theorem boxV_m {w : World} {g W last : Nat} {lo : Int} {dv sv mv : Value} {N : Nat} (h : w.heap[g]? = some (boxV W last lo dv sv N mv)) (v : Value) : (w.setCell ⟨g, 6, none⟩ v).heap[g]? = some (boxV W last lo dv sv N v) := by
  unfold boxV at h ⊢
  rw [heap_setCell_same w g 6 _ 64 _ h]; rfl

theorem IdxV.shape {w : World} {lo : Int} {dv sv : Value} {q : Int → Option Nat} (h : IdxV w lo dv sv q) : ∃ (p : Option Addr) (l c : Nat) (m : Option Nat), dv = .slice p l c ∧ sv = .map m := by
  rcases h with ⟨D, ds, rfl, rfl, _⟩ | ⟨S, k, D, rfl, rfl, _⟩
  · exact ⟨_, _, _, _, rfl, rfl⟩
  · exact ⟨_, _, _, _, rfl, rfl⟩
/-- Blocks of the two kinds that an index lies in are kept. -/
theorem IdxV.keep {w w' : World} {lo : Int} {dv sv : Value} {q : Int → Option Nat} (h : IdxV w lo dv sv q) (k1 : ∀ (b : Nat) ds, w.heap[b]? = some (rowD ds) → w'.heap[b]? = some (rowD ds)) (k2 : ∀ (b : Nat) es cl, w.heap[b]? = some (.map es cl) → w'.heap[b]? = some (.map es cl)) : IdxV w' lo dv sv q := by
  rcases h with ⟨D, ds, e1, e2, hl, hD, ok⟩ | ⟨S, k, D, e1, e2, ⟨es, cl, h1, h2⟩, ok⟩
  · exact .inl ⟨D, ds, e1, e2, hl, k1 _ _ hD, ok⟩
  · exact .inr ⟨S, k, D, e1, e2, ⟨es, cl, k2 _ _ _ h1, h2⟩, ok⟩
theorem IdxV.below {w w' : World} {lo : Int} {dv sv : Value} {q : Int → Option Nat} (h : IdxV w lo dv sv q) (hb : Below w.heap.size w w') : IdxV w' lo dv sv q :=
  h.keep (fun b ds e => (hb.block b (Array.getElem?_eq_some_iff.1 e).1).trans e) (fun b es cl e => (hb.block b (Array.getElem?_eq_some_iff.1 e).1).trans e)
/-- Another block is written: a box or a row of other values. -/
theorem IdxV.other {w w' : World} {lo : Int} {dv sv : Value} {q : Int → Option Nat} (h : IdxV w lo dv sv q) {g : Nat} {cs : Array Value} {t : TypeId} (hg : w.heap[g]? = some (.cells cs t)) (ht : t ≠ 21) (hw : w.grownBy w' (some g)) : IdxV w' lo dv sv q :=
  h.keep (fun b ds e => (hw.block b (Array.getElem?_eq_some_iff.1 e).1 (by
      intro h'; cases h'; rw [hg] at e; simp [rowV] at e; exact ht e.2)).trans e)
    (fun b es cl e => (hw.block b (Array.getElem?_eq_some_iff.1 e).1 (by
      intro h'; cases h'; rw [hg] at e; simp at e)).trans e)
theorem grown_setCell {w w' : World} {g : Nat} (h : w.grownBy w' (some g)) (o : Nat) (v : Value) : w.grownBy (w'.setCell ⟨g, o, none⟩ v) (some g) :=
  ⟨h.os, h.tape, h.output, by simpa using h.size, fun k hk hne => by
    rw [heap_setCell_other _ _ _ _ (fun e => hne (by rw [show k = g from e]))]; exact h.block k hk hne⟩
theorem grown_drewN {w wr : World} {r : Option Nat} (h : w.grownBy wr r) (q : Nat) : w.grownBy (wr.drewN q) r := ⟨h.os, h.tape, h.output, h.size, h.block⟩

/-- newLineIndex, its values shown. -/
theorem newIdx_sh (A off n cap lk : Nat) (zs : List Int) (w : World) (hn0 : 0 < n) (hn : n ≤ 4096) (hlk : lk ≤ 4096) (hoff : off + n ≤ zs.length) (hA : w.heap[A]? = some (rowI zs)) (hs : ∀ z ∈ zs, Small z) :
    Calls Yba.prog 21 #[.slice (some ⟨A, off, none⟩) n cap, .int .i64 lk] w fun e w' => ∃ (lo : Int) (p : Option Addr) (l c : Nat) (m : Option Nat) (N : Nat) (q : Int → Option Nat),
      e = .returned (.agg #[.int .i64 lo, .slice p l c, .map m, .int .i64 N]) ∧ Small lo ∧ IdxV w' lo (.slice p l c) (.map m) q ∧ Ix (lin zs off) n N q ∧ Below w.heap.size w w' := by
  refine (newIdx_any A off n cap lk zs w hn0 hn hlk hoff hA hs).mono ?_
  rintro e w' ⟨lo, dv, sv, N, q, he, h1, h2, h3, h4⟩
  obtain ⟨p, l, c, m, rfl, rfl⟩ := h2.shape
  exact ⟨lo, p, l, c, m, N, q, he, h1, h2, h3, h4⟩

theorem make_words (m : Nat) (hm : m ≤ 1000000) (wx : World) : (Instr.makeSlice 31 (.int .i64 (m : Int)) (.int .i64 (m : Int))).run Yba.prog wx = .ok (.slice (some ⟨wx.heap.size, 0, none⟩) m m) (wx.alloc (rowU (List.replicate m 0))) := by
  have h := run_make_row' (P := Yba.prog) 31 58 (.int .u64 0) 8 Yba.underlying31 info58 rfl .i64 .i64 m (by omega) (by omega) wx
  rw [h]
  have : Obj.cells (madeCells #[Value.int .u64 0] m) 58 = rowU (List.replicate m 0) := made_rowV u64v 58 m 0
  rw [this]

/-- The match table under way: the first i lines of s are in it. -/
def MtOk (f : Nat → Int) (i N W : Nat) (q : Int → Option Nat) (mt : List Nat) : Prop :=
  mt.length = N * W ∧ (∀ x ∈ mt, x < 18446744073709551616) ∧ ∀ a k, a < N → k < 64 * W → bitAt mt (a * W) k = (decide (k < i) && decide (q (f k) = some a))

/-- What newBitVectors leaves, in block P. -/
structure BV (w : World) (P : Nat) (f : Nat → Int) (n W : Nat) (lo : Int) (dv sv : Value) (N : Nat) (q : Int → Option Nat) (mb : Nat) (mt : List Nat) : Prop where
  bx : w.heap[P]? = some (boxV W (lastW n) lo dv sv N (.slice (some ⟨mb, 0, none⟩) mt.length mt.length))
  ix : Ix f n N q
  iv : IdxV w lo dv sv q
  slo : Small lo
  rm : w.heap[mb]? = some (rowU mt)
  ok : MtOk f n N W q mt
  hW : W = (n + 63) / 64
  hn0 : 0 < n
  hn : n ≤ 4096

theorem shift_last (n : Nat) (hn0 : 0 < n) (hn : n ≤ 4096) (wx : World) : (Op.shift .shr .u64 18446744073709551615 .i64 (IntKind.i64.wrap (63 - (IntKind.i64.wrap ((n : Int) - 1)).tmod 64))).run Yba.prog wx = .ok (.int .u64 ((lastW n : Nat) : Int)) wx := by
  have e1 : IntKind.i64.wrap ((n : Int) - 1) = ((n - 1 : Nat) : Int) := by rw [IntKind.wrap_i64]; omega
  have e2 : (((n - 1 : Nat) : Int)).tmod 64 = (((n - 1) % 64 : Nat) : Int) := by rw [Int.tmod_eq_emod_of_nonneg (by omega)]; omega
  have e3 : IntKind.i64.wrap (63 - (((n - 1) % 64 : Nat) : Int)) = ((63 - (n - 1) % 64 : Nat) : Int) := by rw [IntKind.wrap_i64]; omega
  rw [e1, e2, e3, shift_shr_u64 .i64 18446744073709551615 ((63 - (n - 1) % 64 : Nat) : Int) (by omega) (by omega)]
  have : (18446744073709551615 : Int) / 2 ^ (((63 - (n - 1) % 64 : Nat) : Int)).toNat = ((lastW n : Nat) : Int) := by
    unfold lastW; rw [Int.toNat_natCast]; simp
  rw [this]; rfl

def HoldI (w : World) (A : Nat) (zs : List Int) (w' : World) : Prop := w'.heap[A]? = some (rowI zs) ∧ Below w.heap.size w w'
theorem HoldI.below {w w1 w2 : World} {A : Nat} {zs : List Int} (hb : Below w1.heap.size w1 w2) (h : HoldI w A zs w1) : HoldI w A zs w2 :=
  ⟨(hb.block A (Array.getElem?_eq_some_iff.1 h.1).1).trans h.1, h.2.trans (hb.mono h.2.size)⟩

theorem of_some (B o : Nat) (lo id : Int) (dv sv : Value) (q : Int → Option Nat) (a : Nat) (w : World) (ha : q id = some a) (hlo : Small lo) (hid : Small id)
    (c0 : w.cell? ⟨B, o, none⟩ = some (.int .i64 lo)) (c1 : w.cell? ⟨B, o + 1, none⟩ = some dv) (c2 : w.cell? ⟨B, o + 2, none⟩ = some sv)
    (hI : IdxV w lo dv sv q) (hq : ∀ id a, q id = some a → a ≤ 4096) :
    Calls Yba.prog 22 #[.pointer (some ⟨B, o, none⟩), .int .i64 id] w fun e w' => e = .returned (.int .i64 (a : Int)) ∧ ∃ n, w' = w.drewN n := by
  have h := of_any B o lo id dv sv q w hlo hid c0 c1 c2 hI hq
  rw [ha] at h
  exact h
theorem shl_run (r : Nat) (hr : r < 64) (wx : World) : (Op.shift .shl .u64 1 .i64 (r : Int)).run Yba.prog wx = .ok (.int .u64 ((2 ^ r : Nat) : Int)) wx := by
  rw [shift_shl_u64 .i64 1 (r : Int) (by omega) (by omega)]
  have h : (2 : Nat) ^ r < 2 ^ 64 := Nat.pow_lt_pow_right (by omega) hr
  have : IntKind.u64.wrap (1 * 2 ^ ((r : Int)).toNat) = ((2 ^ r : Nat) : Int) := by
    rw [Int.toNat_natCast, Int.one_mul, IntKind.wrap_u64, show ((2 : Int) ^ r) = ((2 ^ r : Nat) : Int) by simp]
    have h2 : (2 : Nat) ^ r < 18446744073709551616 := Nat.lt_of_lt_of_eq h rfl
    generalize (2 : Nat) ^ r = B at h2
    omega
  rw [this]; rfl
theorem wrap_small (d : Nat) (h : d ≤ 1000000) : IntKind.i64.wrap (d : Int) = (d : Int) ∧ wrap64 (d : Int) = (d : Int) := by
  have e : IntKind.i64.wrap (d : Int) = (d : Int) := by rw [IntKind.wrap_i64]; omega
  exact ⟨e, (IntWalk.i64_left _).symm.trans e⟩
theorem ix_arith (a W i : Nat) (h : a * W ≤ 300000) (hi : i ≤ 4096) : IntKind.i64.wrap ((a : Int) * (W : Int)) = ((a * W : Nat) : Int) ∧ wrap64 ((a : Int) * (W : Int)) = ((a * W : Nat) : Int) ∧ (i : Int).tdiv 64 = ((i / 64 : Nat) : Int) ∧ (i : Int) / 64 = ((i / 64 : Nat) : Int) ∧
    (i : Int).tmod 64 = ((i % 64 : Nat) : Int) ∧ (i : Int) % 64 = ((i % 64 : Nat) : Int) ∧ ((a * W : Nat) : Int) + ((i / 64 : Nat) : Int) = ((a * W + i / 64 : Nat) : Int) ∧ i / 64 ≤ 64 ∧ i % 64 < 64 := by
  have e0 : (a : Int) * (W : Int) = ((a * W : Nat) : Int) := by simp
  have e1 : IntKind.i64.wrap ((a : Int) * (W : Int)) = ((a * W : Nat) : Int) := by
    rw [e0]; generalize a * W = x at h; rw [IntKind.wrap_i64]; omega
  refine ⟨e1, (IntWalk.i64_left _).symm.trans e1, ?_, ?_, ?_, ?_, (Int.natCast_add _ _).symm, ?_, ?_⟩
  · rw [Int.tdiv_eq_ediv_of_nonneg (by omega)]; omega
  · omega
  · rw [Int.tmod_eq_emod_of_nonneg (by omega)]; omega
  · omega
  · omega
  · omega
theorem pow_wrap (r : Nat) (hr : r < 64) : IntKind.u64.wrap (2 ^ r) = ((2 ^ r : Nat) : Int) := by
  have h : (2 : Nat) ^ r < 2 ^ 64 := Nat.pow_lt_pow_right (by omega) hr
  rw [IntKind.wrap_u64, show ((2 : Int) ^ r) = ((2 ^ r : Nat) : Int) by simp]
  have h2 : (2 : Nat) ^ r < 18446744073709551616 := Nat.lt_of_lt_of_eq h rfl
  generalize (2 : Nat) ^ r = B at h2
  omega
/-- newBitVectors' loop under way. -/
structure BVi (w : World) (A : Nat) (zs : List Int) (P : Nat) (f : Nat → Int) (n W i : Nat) (lo : Int) (dv sv : Value) (N : Nat) (q : Int → Option Nat) (mb : Nat) (mt : List Nat) (h : World) : Prop where
  bx : h.heap[P]? = some (boxV W (lastW n) lo dv sv N (.slice (some ⟨mb, 0, none⟩) mt.length mt.length))
  iv : IdxV h lo dv sv q
  rm : h.heap[mb]? = some (rowU mt)
  ok : MtOk f i N W q mt
  hold : HoldI w A zs h
  hP : w.heap.size ≤ P
  hm : w.heap.size ≤ mb
theorem MtOk.zero (f : Nat → Int) (N W : Nat) (q : Int → Option Nat) : MtOk f 0 N W q (List.replicate (N * W) 0) := by
  refine ⟨List.length_replicate .., fun x hx => ?_, fun a k ha hk => ?_⟩
  · rw [(List.mem_replicate.1 hx).2]; decide
  · unfold bitAt
    have : ∀ t, (List.replicate (N * W) 0)[t]?.getD 0 = 0 := fun t => by rw [List.getElem?_replicate]; split <;> rfl
    rw [this]; simp
theorem cell_ne {a b W i j : Nat} (hi : i < W) (hj : j < W) (h : a * W + i = b * W + j) : a = b ∧ i = j := by
  have h1 : (a * W + i) / W = a := by rw [Nat.mul_comm, Nat.mul_add_div (by omega), Nat.div_eq_of_lt hi]; rfl
  have h2 : (b * W + j) / W = b := by rw [Nat.mul_comm, Nat.mul_add_div (by omega), Nat.div_eq_of_lt hj]; rfl
  have : a = b := by rw [← h1, h, h2]
  subst this
  exact ⟨rfl, by omega⟩
theorem MtOk.set {f : Nat → Int} {i N W n a : Nat} {q : Int → Option Nat} {mt : List Nat} (h : MtOk f i N W q mt) (hW : W = (n + 63) / 64) (hi : i < n) (ha : a < N) (hq : q (f i) = some a) :
    MtOk f (i + 1) N W q (mt.set (a * W + i / 64) ((mt[a * W + i / 64]?.getD 0) ||| 2 ^ (i % 64))) := by
  obtain ⟨h1, h2, h3⟩ := h
  have hiW : i / 64 < W := by omega
  have hlt : a * W + i / 64 < mt.length := by
    rw [h1]
    calc a * W + i / 64 < a * W + W := by omega
      _ = (a + 1) * W := by rw [Nat.add_mul, Nat.one_mul]
      _ ≤ N * W := Nat.mul_le_mul_right _ ha
  refine ⟨by rw [List.length_set]; exact h1, fun x hx => ?_, fun b k hb hk => ?_⟩
  · rcases List.mem_or_eq_of_mem_set hx with hx | hx
    · exact h2 x hx
    · rw [hx]
      have e1 : mt[a * W + i / 64]?.getD 0 < 2 ^ 64 := by rw [List.getElem?_eq_getElem hlt]; exact h2 _ (List.getElem_mem hlt)
      have e2 : (2 : Nat) ^ (i % 64) < 2 ^ 64 := Nat.pow_lt_pow_right (by omega) (by omega)
      simpa using Nat.or_lt_two_pow e1 e2
  · have h4 := h3 b k hb hk
    unfold bitAt at h4 ⊢
    have hkW : k / 64 < W := by omega
    rw [List.getElem?_set]
    by_cases e : a * W + i / 64 = b * W + k / 64
    · obtain ⟨e1, e2⟩ := cell_ne hiW hkW e
      subst e1
      rw [if_pos e, if_pos hlt]
      simp only [Option.getD_some]
      rw [Nat.testBit_or, Nat.testBit_two_pow, e, h4]
      by_cases hki : k = i
      · subst hki; simp [hq]
      · rw [show decide (i % 64 = k % 64) = false by simp; omega, Bool.or_false]
        congr 1
        rw [Bool.eq_iff_iff]; simp; omega
    · rw [if_neg e, h4]
      by_cases hki : k = i
      · subst hki
        have : a ≠ b := fun h => e (by rw [h])
        have e5 : decide (q (f k) = some b) = false := by rw [hq]; simpa using this
        rw [e5]; simp
      · congr 1
        rw [Bool.eq_iff_iff]; simp; omega
theorem BVi.set {w : World} {A : Nat} {zs : List Int} {P : Nat} {f : Nat → Int} {n W i : Nat} {lo : Int} {dv sv : Value} {N : Nat} {q : Int → Option Nat} {mb : Nat} {mt : List Nat} {h : World} (s : BVi w A zs P f n W i lo dv sv N q mb mt h)
    (hW : W = (n + 63) / 64) (hi : i < n) {a : Nat} (ha : a < N) (hq : q (f i) = some a) (hA : A < w.heap.size) :
    BVi w A zs P f n W (i + 1) lo dv sv N q mb (mt.set (a * W + i / 64) ((mt[a * W + i / 64]?.getD 0) ||| 2 ^ (i % 64))) (h.setCell ⟨mb, a * W + i / 64, none⟩ (u64v ((mt[a * W + i / 64]?.getD 0) ||| 2 ^ (i % 64)))) := by
  have hg := grown_setCell (World.grownBy.refl h (some mb)) (a * W + i / 64) (u64v ((mt[a * W + i / 64]?.getD 0) ||| 2 ^ (i % 64)))
  have hne : P ≠ mb := fun e => by have h1 := s.bx; rw [e, s.rm] at h1; simp [boxV, rowV] at h1
  refine ⟨?_, s.iv.other s.rm (by decide) hg, rowV_set s.rm _ _, s.ok.set hW hi ha hq, ⟨?_, s.hold.2.setCell s.hm _⟩, s.hP, s.hm⟩
  · rw [heap_setCell_other _ _ _ _ (by exact hne), List.length_set]; exact s.bx
  · rw [heap_setCell_other _ _ _ _ (by have := s.hm; show A ≠ mb; omega)]; exact s.hold.1

theorem BVi.drewN {w : World} {A : Nat} {zs : List Int} {P : Nat} {f : Nat → Int} {n W i : Nat} {lo : Int} {dv sv : Value} {N : Nat} {q : Int → Option Nat} {mb : Nat} {mt : List Nat} {h : World} (s : BVi w A zs P f n W i lo dv sv N q mb mt h) (k : Nat) : BVi w A zs P f n W i lo dv sv N q mb mt (h.drewN k) :=
  ⟨s.bx, s.iv, s.rm, s.ok, ⟨s.hold.1, below_drewN s.hold.2 k⟩, s.hP, s.hm⟩

end Go.Proofs.Ybulkdwba.lawB

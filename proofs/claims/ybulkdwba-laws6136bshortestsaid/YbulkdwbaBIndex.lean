/-
  FOR 'Rows.LawS6136BShortestSaid': newLineIndex: its contract.
-/
import Derived.Test.YbulkdwbaBOf
import Derived.Deep.LoopGhost
import Derived.Deep.CutBlock
import Derived.Deep.CutRange
namespace Go.Proofs.Ybulkdwba.lawB
open Go.ChangeShapes Go.WideShapes Go.ChangeAt Go.RowKit Go.Deep Go.Maps
open lawC (rowI rowI_cell rowI_frozen rowI_set made_rowI info3)
set_option linter.unusedVariables false

/-- The lines of a slice that lies in a row from 'off' on. -/
def lin (zs : List Int) (off : Nat) : Nat → Int := fun k => zs[off + k]?.getD 0
def boxX (lo : Int) (dv sv : Value) (N : Nat) : Obj := .cells #[.int .i64 lo, dv, sv, .int .i64 N] 62
theorem boxX_cell {w : World} {g : Nat} {lo : Int} {dv sv : Value} {N : Nat} (h : w.heap[g]? = some (boxX lo dv sv N)) :
    w.cell? ⟨g, 0, none⟩ = some (.int .i64 lo) ∧ w.cell? ⟨g, 1, none⟩ = some dv ∧ w.cell? ⟨g, 2, none⟩ = some sv ∧ w.cell? ⟨g, 3, none⟩ = some (.int .i64 N) ∧ ∀ o, w.frozen? ⟨g, o, none⟩ = false := by
  unfold boxX at h
  have e : ∀ f : Nat, w.cell? ⟨g, f, none⟩ = #[.int .i64 lo, dv, sv, .int .i64 N][f]? := fun f => cell_of_row w g f _ 62 (0, 0) h
  exact ⟨e 0, e 1, e 2, e 3, fun o => frozen_of_row w g o _ 62 h⟩
theorem boxX_n {w : World} {g : Nat} {lo : Int} {dv sv : Value} {N : Nat} (h : w.heap[g]? = some (boxX lo dv sv N)) (M : Nat) : (w.setCell ⟨g, 3, none⟩ (.int .i64 M)).heap[g]? = some (boxX lo dv sv M) := by
  unfold boxX at h ⊢
  rw [heap_setCell_same w g 3 _ 62 _ h]; rfl
theorem boxX_ne_row {α : Type} {v : α → Value} {t : TypeId} {zs : List α} {lo : Int} {dv sv : Value} {N : Nat} (h : t ≠ 62) : boxX lo dv sv N ≠ rowV v t zs := by
  unfold rowV boxX; intro e; simp at e; exact h e.2.symm

/-- What newLineIndex leaves. -/
def NewIdx (f : Nat → Int) (n : Nat) (w : World) (e : Ending) (w' : World) : Prop :=
  ∃ (lo : Int) (dv sv : Value) (N : Nat) (q : Int → Option Nat), e = .returned (.agg #[.int .i64 lo, dv, sv, .int .i64 N]) ∧ Small lo ∧ IdxV w' lo dv sv q ∧ Ix f n N q ∧ Below w.heap.size w w'

/-- The memory of newLineIndex under way: the index in block X, the block of the result. -/
structure DSt (w : World) (f : Nat → Int) (X D : Nat) (lo : Int) (j N : Nat) (q : Int → Option Nat) (ds : List Nat) (h : World) : Prop where
  bx : h.heap[X]? = some (boxX lo (.slice (some ⟨D, 0, none⟩) ds.length ds.length) (.map none) N)
  rd : h.heap[D]? = some (rowD ds)
  rr : h.heap[w.heap.size]? = some (boxX 0 (.slice none 0 0) (.map none) 0)
  ix : Ix f j N q
  ok : DenseOk lo ds q
  hX : w.heap.size < X
  hD : w.heap.size < D
  bel : Below w.heap.size w h
theorem DSt.old {w : World} {f : Nat → Int} {X D : Nat} {lo : Int} {j N : Nat} {q : Int → Option Nat} {ds : List Nat} {h : World} (s : DSt w f X D lo j N q ds h) {a : Nat} (hq : q (f j) = some a) : DSt w f X D lo (j + 1) N q ds h := { s with ix := s.ix.old hq }
theorem DSt.new {w : World} {f : Nat → Int} {X D : Nat} {lo : Int} {j N t : Nat} {q : Int → Option Nat} {ds : List Nat} {h : World} (s : DSt w f X D lo j N q ds h) (hq : q (f j) = none) (ht : f j = lo + t) (htl : t < ds.length) :
    DSt w f X D lo (j + 1) (N + 1) (grow1 q (f j) N) (ds.set t (N + 1)) ((h.setCell ⟨X, 3, none⟩ (.int .i64 ((N + 1 : Nat) : Int))).setCell ⟨D, t, none⟩ (i32v (N + 1))) := by
  have hne : X ≠ D := fun e => by have h1 := s.bx; rw [e, s.rd] at h1; exact boxX_ne_row (t := 21) (by decide) (by simpa using h1.symm)
  have hX := s.hX
  have hD := s.hD
  refine ⟨?_, ?_, ?_, s.ix.new hq, ⟨fun id a h => ?_, fun u hu => ?_⟩, hX, hD, (s.bel.setCell (Nat.le_of_lt hX) _).setCell (Nat.le_of_lt hD) _⟩
  · rw [heap_setCell_other _ _ _ _ (by exact hne), List.length_set]; exact boxX_n s.bx _
  · exact rowV_set (by rw [heap_setCell_other _ _ _ _ (by exact Ne.symm hne)]; exact s.rd) t (N + 1)
  · rw [heap_setCell_other _ _ _ _ (by show w.heap.size ≠ D; omega), heap_setCell_other _ _ _ _ (by show w.heap.size ≠ X; omega)]; exact s.rr
  · rw [List.length_set]
    unfold grow1 at h
    split at h
    · subst_vars; omega
    · exact s.ok.1 id a h
  · rw [List.length_set] at hu
    have h1 := s.ok.2 u hu
    unfold grow1
    rw [List.getElem?_set]
    by_cases e : t = u
    · subst e; rw [if_pos rfl, if_pos htl, if_pos (by rw [ht])]; rfl
    · rw [if_neg e, if_neg (by omega)]; exact h1

/-- The same, sparse. -/
structure SSt (w : World) (f : Nat → Int) (X S : Nat) (lo : Int) (j c N : Nat) (q : Int → Option Nat) (D : DataW Unit) (h : World) : Prop where
  bx : h.heap[X]? = some (boxX lo (.slice none 0 0) (.map (some S)) N)
  rd : h.ownsMap Yba.prog 3 (plainElem (H := Unit) Yba.prog 21) S c D
  hc : c ≤ j
  rr : h.heap[w.heap.size]? = some (boxX 0 (.slice none 0 0) (.map none) 0)
  ix : Ix f j N q
  ok : SparseOk D q
  hX : w.heap.size < X
  hS : w.heap.size < S
  hne : X ≠ S
  bel : Below w.heap.size w h
theorem SSt.old {w : World} {f : Nat → Int} {X S : Nat} {lo : Int} {j c N : Nat} {q : Int → Option Nat} {D : DataW Unit} {h : World} (s : SSt w f X S lo j c N q D h) {a : Nat} (hq : q (f j) = some a) : SSt w f X S lo (j + 1) c N q D h := { s with ix := s.ix.old hq, hc := Nat.le_succ_of_le s.hc }
theorem own_setCell {h : World} {R : Value → Option (DataW Unit × List MemPlace)} {S n X o : Nat} {D : DataW Unit} {v : Value} (hne : S ≠ X) (ho : h.ownsMap Yba.prog 3 R S n D) : (h.setCell ⟨X, o, none⟩ v).ownsMap Yba.prog 3 R S n D := by
  obtain ⟨es, cl, h1, h2⟩ := ho
  exact ⟨es, cl, by rw [heap_setCell_other _ _ _ _ (by exact hne)]; exact h1, h2⟩
theorem sparse_put {D : DataW Unit} {q : Int → Option Nat} (hD : Maps.IsMap D) (h : SparseOk D q) (id : Int) (N : Nat) : SparseOk (D.put (.int .i64 id) (.lit (.int .i32 (N : Int)))) (grow1 q id N) := by
  intro id' hw
  obtain ⟨h1, h2⟩ := h id' hw
  by_cases e : id' = id
  · subst e
    refine ⟨?_, fun a ha => ?_⟩
    · rw [Maps.has_put_same (k := .int .i64 id') hD trivial]; simp [grow1]
    · rw [Maps.atKey_put_same (k := .int .i64 id') hD trivial]; simp [grow1] at ha; rw [ha]
  · have hne : Lit.int .i64 id' ≠ Lit.int .i64 id := fun h => e (by simpa using h)
    refine ⟨?_, fun a ha => ?_⟩
    · rw [Maps.has_put_other hne, h1]; simp [grow1, e]
    · rw [Maps.atKey_put_other hne]; exact h2 a (by simpa [grow1, e] using ha)
theorem SSt.new {w : World} {f : Nat → Int} {X S : Nat} {lo : Int} {j c N : Nat} {q : Int → Option Nat} {D : DataW Unit} {h w1 : World} (s : SSt w f X S lo j c N q D h) (hq : q (f j) = none)
    (ho : w1.ownsMap Yba.prog 3 (plainElem (H := Unit) Yba.prog 21) S (c + 1) (D.put (.int .i64 (f j)) (.lit (.int .i32 (N : Int))))) (hg : h.grownBy w1 (some S)) :
    SSt w f X S lo (j + 1) (c + 1) (N + 1) (grow1 q (f j) N) (D.put (.int .i64 (f j)) (.lit (.int .i32 (N : Int)))) (w1.setCell ⟨X, 3, none⟩ (.int .i64 ((N + 1 : Nat) : Int))) := by
  have hX := s.hX
  have hS := s.hS
  have kb : ∀ (k : Nat) (o : Obj), k ≠ S → h.heap[k]? = some o → w1.heap[k]? = some o := fun k o hk hh => (hg.block k ((Array.getElem?_eq_some_iff.1 hh).1) (by simpa using fun e => hk e)).trans hh
  refine SSt.mk (boxX_n (kb X _ s.hne s.bx) _) (own_setCell (Ne.symm s.hne) ho) (Nat.succ_le_succ s.hc) ?_ (s.ix.new hq) (sparse_put s.rd.isMap s.ok _ _) hX hS s.hne ((s.bel.grown hg s.bel.size (fun k hk => by cases hk; exact Nat.le_of_lt hS)).setCell (Nat.le_of_lt hX) _)
  rw [heap_setCell_other _ _ _ _ (by show w.heap.size ≠ X; omega)]
  exact kb _ _ (by omega) s.rr

/-- The result is laid into its block. -/
def store4 (h : World) (g : Nat) (a b c d : Value) : World := (((h.setCell ⟨g, 0, none⟩ a).setCell ⟨g, 1, none⟩ b).setCell ⟨g, 2, none⟩ c).setCell ⟨g, 3, none⟩ d
theorem store4_other {h : World} {g : Nat} {a b c d : Value} (k : Nat) (hk : k ≠ g) : (store4 h g a b c d).heap[k]? = h.heap[k]? := by
  unfold store4
  rw [heap_setCell_other _ _ _ _ (by exact hk), heap_setCell_other _ _ _ _ (by exact hk), heap_setCell_other _ _ _ _ (by exact hk), heap_setCell_other _ _ _ _ (by exact hk)]
theorem store4_below {B : Nat} {w h : World} (hb : Below B w h) (g : Nat) (hg : B ≤ g) (a b c d : Value) : Below B w (store4 h g a b c d) := (((hb.setCell hg _).setCell hg _).setCell hg _).setCell hg _

theorem below_drewN {B : Nat} {w h : World} (hb : Below B w h) (n : Nat) : Below B w (h.drewN n) := ⟨hb.os, hb.tape, hb.output, hb.size, hb.block⟩
theorem DSt.start (w : World) (f : Nat → Int) (lo : Int) (m nq : Nat) : DSt w f (w.heap.size + 1) (w.heap.size + 2) lo 0 0 (fun _ => none) (List.replicate m 0)
    ((((w.alloc (.cells #[.int .i64 0, .slice none 0 0, .map none, .int .i64 0] 62)).drewN nq).alloc (.cells #[.int .i64 lo, .slice (some ⟨w.heap.size + 1 + 1, 0, none⟩) m m, .map none, .int .i64 0] 62)).alloc (rowD (List.replicate m 0))) := by
  refine ⟨?_, ?_, ?_, Ix.zero f, ⟨fun id a h => by simp at h, fun t ht => ?_⟩, by omega, by omega, ?_⟩
  · show (((w.heap.push _).push _).push _)[w.heap.size + 1]? = _
    rw [Array.getElem?_push, if_neg (by simp), Array.getElem?_push, if_pos (by simp), List.length_replicate]; rfl
  · show (((w.heap.push _).push _).push _)[w.heap.size + 2]? = _
    rw [Array.getElem?_push, if_pos (by simp)]
  · show (((w.heap.push _).push _).push _)[w.heap.size]? = _
    rw [Array.getElem?_push, if_neg (by simp; omega), Array.getElem?_push, if_neg (by simp), Array.getElem?_push, if_pos rfl]; rfl
  · simp at ht; simp [ht]
  · exact ((below_drewN ((Below.refl w.heap.size w).alloc (Nat.le_refl _) _) nq).alloc (by simp) _).alloc (by simp; omega) _
theorem DSt.end {w : World} {f : Nat → Int} {X D : Nat} {lo : Int} {n N : Nat} {q : Int → Option Nat} {ds : List Nat} {h : World} (s : DSt w f X D lo n N q ds h) (hm : ds.length ≤ 1000000) (hlo : Small lo) (a b c d : Value) :
    NewIdx f n w (.returned (.agg #[.int .i64 lo, .slice (some ⟨D, 0, none⟩) ds.length ds.length, .map none, .int .i64 N])) (store4 h w.heap.size a b c d) :=
  ⟨lo, _, _, N, q, rfl, hlo, .inl ⟨D, ds, rfl, rfl, hm, by rw [store4_other _ (Nat.ne_of_gt s.hD)]; exact s.rd, s.ok⟩, s.ix, store4_below s.bel _ (Nat.le_refl _) _ _ _ _⟩

theorem SSt.start (w : World) (f : Nat → Int) (lo : Int) (nq : Nat) (cap : Option Nat) (hh : World)
    (e : hh = ((((w.alloc (.cells #[.int .i64 0, .slice none 0 0, .map none, .int .i64 0] 62)).drewN nq).alloc (.cells #[.int .i64 lo, .slice none 0 0, .map (some (w.heap.size + 1 + 1)), .int .i64 0] 62)).alloc (.map #[] 0))) : SSt w f (w.heap.size + 1) (w.heap.size + 2) lo 0 0 0 (fun _ => none) (.map []) hh := by
  subst e
  refine ⟨?_, ?_, Nat.le_refl _, ?_, Ix.zero f, fun id _ => ⟨rfl, fun a h => by simp at h⟩, by omega, by omega, by omega, ?_⟩
  · show (((w.heap.push _).push _).push _)[w.heap.size + 1]? = _
    rw [Array.getElem?_push, if_neg (by simp), Array.getElem?_push, if_pos (by simp)]; rfl
  · have := World.ownsMap_made (H := Unit) (((w.alloc (.cells #[.int .i64 0, .slice none 0 0, .map none, .int .i64 0] 62)).drewN nq).alloc (.cells #[.int .i64 lo, .slice none 0 0, .map (some (w.heap.size + 1 + 1)), .int .i64 0] 62)) Yba.prog 3 (plainElem (H := Unit) Yba.prog 21)
    simpa using this
  · show (((w.heap.push _).push _).push _)[w.heap.size]? = _
    rw [Array.getElem?_push, if_neg (by simp; omega), Array.getElem?_push, if_neg (by simp), Array.getElem?_push, if_pos rfl]; rfl
  · exact ((below_drewN ((Below.refl w.heap.size w).alloc (Nat.le_refl _) _) nq).alloc (by simp) _).alloc (by simp; omega) _
theorem SSt.end {w : World} {f : Nat → Int} {X S : Nat} {lo : Int} {n c N : Nat} {q : Int → Option Nat} {D : DataW Unit} {h : World} (s : SSt w f X S lo n c N q D h) (hlo : Small lo) (a b c' d : Value) :
    NewIdx f n w (.returned (.agg #[.int .i64 lo, .slice none 0 0, .map (some S), .int .i64 N])) (store4 h w.heap.size a b c' d) := by
  refine ⟨lo, _, _, N, q, rfl, hlo, .inr ⟨S, c, D, rfl, rfl, ?_, s.ok⟩, s.ix, store4_below s.bel _ (Nat.le_refl _) _ _ _ _⟩
  obtain ⟨es, cl, h1, h2⟩ := s.rd
  exact ⟨es, cl, by rw [store4_other _ (Nat.ne_of_gt s.hS)]; exact h1, h2⟩

theorem make_map (z : Int) (hz : 0 ≤ z) (wx : World) : (Instr.makeMap 60 (some (.int .i64 z))).run Yba.prog wx = .ok (.map (some wx.heap.size)) (wx.alloc (.map #[] 0)) := by
  simp [Instr.makeMap, go_sem]
theorem make_dense (m : Nat) (z : Int) (hz : z = m) (hm : m ≤ 1000000) (wx : World) : (Instr.makeSlice 59 (.int .i64 z) (.int .i64 z)).run Yba.prog wx = .ok (.slice (some ⟨wx.heap.size, 0, none⟩) m m) (wx.alloc (rowD (List.replicate m 0))) := by
  subst hz
  have h := run_make_row' (P := Yba.prog) 59 21 (.int .i32 0) 4 Yba.underlying59 info21 rfl .i64 .i64 m (by omega) (by omega) wx
  rw [h]
  have : Obj.cells (madeCells #[Value.int .i32 0] m) 21 = rowD (List.replicate m 0) := made_rowV i32v 21 m 0
  rw [this]

set_option maxRecDepth 100000 in
set_option maxHeartbeats 1000000 in
theorem newIdx_any (A off n cap lk : Nat) (zs : List Int) (w : World) (hn0 : 0 < n) (hn : n ≤ 4096) (hlk : lk ≤ 4096) (hoff : off + n ≤ zs.length) (hA : w.heap[A]? = some (rowI zs)) (hs : ∀ z ∈ zs, Small z) :
    Calls Yba.prog 21 #[.slice (some ⟨A, off, none⟩) n cap, .int .i64 lk] w (NewIdx (lin zs off) n w) := by
  have hz : ∀ k, k < n → Small (lin zs off k) := fun k hk => hs _ (by unfold lin; rw [List.getElem?_eq_getElem (by omega)]; simp)
  have c0 := rowI_cell hA off (by omega)
  have hA' : A < w.heap.size := (Array.getElem?_eq_some_iff.1 hA).1
  have hz0 := hz 0 hn0
  obtain ⟨z1, z2⟩ := hz0
  go_enter Yba.func21, Yba.ntmps21
  go_wp2
  go_quiet (fail)
  go_wp2_with fail
  go_loopw [5, 6, 28] (fun l h i wr => ∃ (j : Nat) (lo hi : Int), j ≤ n ∧ i = .int .i64 j ∧ l = .int .i64 lo ∧ h = .int .i64 hi ∧ Small lo ∧ Small hi ∧ lo ≤ hi ∧ (∀ k, k < j → lo ≤ lin zs off k ∧ lin zs off k ≤ hi) ∧ wr = (w.alloc (.cells #[.int .i64 0, .slice none 0 0, .map none, .int .i64 0] 62)).drewN nq) (fun _ _ i _ => n - (intOf i).toNat)
  case atStart => exact ⟨0, lin zs off 0, lin zs off 0, Nat.zero_le _, rfl, rfl, rfl, ⟨z1, z2⟩, ⟨z1, z2⟩, Int.le_refl _, fun k hk => absurd hk (by omega), rfl⟩
  case round =>
    obtain ⟨j, lo, hi, hj, rfl, rfl, rfl, ⟨l1, l2⟩, ⟨h1, h2⟩, hlh, hall, rfl⟩ := hrel
    by_cases hjl : j < n
    · obtain ⟨y1, y2⟩ := hz j hjl
      have hcj : w.cell? ⟨A, off + j, none⟩ = some (.int .i64 (lin zs off j)) := rowI_cell hA (off + j) (by omega)
      have HALL : Hid (∀ k, k < j + 1 → k < j ∨ lin zs off k = lin zs off j) := fun k hk => by
        by_cases e : k = j
        · subst e; exact .inr rfl
        · exact .inl (by omega)
      have HO : Hid (∀ k, k < j → lo ≤ lin zs off k ∧ lin zs off k ≤ hi) := hall
      obtain ⟨y, hy⟩ : ∃ y, y = lin zs off j := ⟨_, rfl⟩
      rw [← hy] at hcj y1 y2 HALL
      clear hz c0 hall hy
      go_wp2_with fail
      go_roundw
      case rel =>
        refine ⟨j + 1, _, _, by omega, by go_num, rfl, rfl, ?_, ?_, ?_, fun k hk => ?_, trivial⟩
        · split <;> constructor <;> omega
        · split <;> constructor <;> omega
        · split <;> split <;> omega
        · rcases HALL.out k hk with h | h
          · have := HO.out k h; split <;> split <;> omega
          · rw [h]; split <;> split <;> omega
      case measure => simp [intOf]; omega
    · obtain rfl : j = n := by omega
      have HALL : Hid (∀ k, k < j → lo ≤ lin zs off k ∧ lin zs off k ≤ hi) := hall
      obtain ⟨m, hm⟩ : ∃ m : Nat, (m : Int) = hi - lo + 1 := ⟨(hi - lo + 1).toNat, by omega⟩
      clear hall c0
      by_cases hd : hi - lo < 4 * ((j : Int) + lk) + 256
      · have hmk := make_dense m (hi - lo + 1) hm.symm (by omega)
        go_wp2_with fail
        go_loopw [59] (fun i wr => ∃ (k N : Nat) (q : Int → Option Nat) (ds : List Nat), k ≤ j ∧ i = .int .i64 k ∧ ds.length = m ∧ DSt w (lin zs off) (w.heap.size + 1) (w.heap.size + 2) lo k N q ds wr) (fun i _ => j - (intOf i).toNat)
        case atStart => exact ⟨0, 0, _, _, Nat.zero_le _, rfl, List.length_replicate .., DSt.start ..⟩
        case round =>
          obtain ⟨k, N, q, ds, hk, rfl, hdl, st⟩ := hrel
          by_cases hkj : k < j
          · obtain ⟨y1, y2⟩ := HALL.out k hkj
            obtain ⟨t, ht⟩ : ∃ t : Nat, lin zs off k = lo + t := ⟨(lin zs off k - lo).toNat, by omega⟩
            have htl : t < ds.length := by omega
            have hcA : wr.cell? ⟨A, off + k, none⟩ = some (.int .i64 (lo + t)) := by
              rw [st.bel.cell (by exact hA'), ← ht]; exact rowI_cell hA (off + k) (by omega)
            obtain ⟨x0, x1, x2, x3, xf⟩ := boxX_cell st.bx
            have hcD := rowV_cell 0 st.rd t htl
            rw [st.ok.2 t htl] at hcD
            have fD := rowV_frozen st.rd t
            have e4 : lo + ↑t - lo = (t : Int) := by omega
            have fX := xf 3
            have hN : N ≤ 4096 := by have := st.ix.le; omega
            clear hmk hz
            cases hq : q (lo + t) with
            | none =>
              rw [hq] at hcD
              have hcD' : wr.cell? ⟨w.heap.size + 2, t, none⟩ = some (.int .i32 0) := hcD
              clear hcD
              have hnew := st.new (by rw [ht]; exact hq) ht htl
              go_wp2_with fail
              go_roundw
              case rel => exact ⟨k + 1, N + 1, _, _, by omega, by go_num, by rw [List.length_set]; exact hdl, hnew⟩
              case measure => simp [intOf]; omega
            | some a =>
              rw [hq] at hcD
              have hcD' : wr.cell? ⟨w.heap.size + 2, t, none⟩ = some (.int .i32 ((a : Int) + 1)) := by simpa [i32v] using hcD
              clear hcD
              have e5 : ((a : Int) + 1 == 0) = false := by rw [beq_eq_false_iff_ne]; omega
              have hold := st.old (by rw [ht]; exact hq)
              go_wp2_with fail
              go_roundw
              case rel => exact ⟨k + 1, N, q, ds, by omega, by go_num, hdl, hold⟩
              case measure => simp [intOf]; omega
          · obtain rfl : k = j := by omega
            obtain ⟨x0, x1, x2, x3, xf⟩ := boxX_cell st.bx
            obtain ⟨r0, r1, r2, r3, rf⟩ := boxX_cell st.rr
            have f0 := rf 0; have f1 := rf 1; have f2 := rf 2; have f3 := rf 3
            have hend := st.end (by omega) ⟨l1, l2⟩
            rw [hdl] at hend
            clear hmk hz
            go_wp2_with fail
            refine bodyPost_ret (v := .agg #[.int .i64 lo, .slice (some ⟨w.heap.size + 2, 0, none⟩) m m, .map none, .int .i64 N]) (by simp [results, Yba.results21, go_sem, *]) rfl (hend _ _ _ _)
      · have hmm := make_map j (by omega)
        go_wp2_with fail
        go_loopw [91] (fun i wr => ∃ (k c N : Nat) (q : Int → Option Nat) (D : DataW Unit), k ≤ j ∧ i = .int .i64 k ∧ SSt w (lin zs off) (w.heap.size + 1) (w.heap.size + 2) lo k c N q D wr) (fun i _ => j - (intOf i).toNat)
        case atStart => exact ⟨0, 0, 0, _, _, Nat.zero_le _, rfl, SSt.start _ _ _ _ none _ rfl⟩
        case round =>
          clear hmm hm
          obtain ⟨k, c, N, q, D, hk, rfl, st⟩ := hrel
          by_cases hkj : k < j
          · obtain ⟨y1, y2⟩ := hz k hkj
            have hcA : wr.cell? ⟨A, off + k, none⟩ = some (.int .i64 (lin zs off k)) := by
              rw [st.bel.cell (by exact hA')]; exact rowI_cell hA (off + k) (by omega)
            obtain ⟨x0, x1, x2, x3, xf⟩ := boxX_cell st.bx
            have fX := xf 3
            have hN : N ≤ 4096 := by have := st.ix.le; omega
            have hw := i64wf (z := lin zs off k) (by omega) (by omega)
            have hkey : keyOf Yba.prog 3 (.int .i64 (lin zs off k)) = some (.int .i64 (lin zs off k)) := keyOf_int_mk Yba.underlying3 hw
            obtain ⟨h3, h4⟩ := st.ok _ hw
            obtain ⟨v, ps, hrun, hv⟩ := st.rd.look_ok law3 Yba.underlying60 (zero21 _) (plainElem_int Yba.underlying21 (by rfl)) hkey
            obtain ⟨x, rfl, _⟩ := plainElem_int_inv Yba.underlying21 hv
            rw [h3] at hrun
            have hold := @SSt.old w _ _ _ lo k c N q D wr st
            have hnew := fun w1 => @SSt.new w (lin zs off) (w.heap.size + 1) (w.heap.size + 2) lo k c N q D wr w1
            have hc := st.hc
            cases hq : q (lin zs off k) with
            | none =>
              rw [hq] at hrun
              have hrun' : (Instr.lookup 60 (.map (some (w.heap.size + 2))) (.int .i64 (lin zs off k)) true).run Yba.prog wr = .ok (.tuple #[.int .i32 x, .bool false]) wr := hrun
              have HN : Hid (∀ w1, w1.ownsMap Yba.prog 3 (plainElem (H := Unit) Yba.prog 21) (w.heap.size + 2) (c + 1) (D.put (.int .i64 (lin zs off k)) (.lit (.int .i32 (N : Int)))) → wr.grownBy w1 (some (w.heap.size + 2)) → SSt w (lin zs off) (w.heap.size + 1) (w.heap.size + 2) lo (k + 1) (c + 1) (N + 1) (grow1 q (lin zs off k) N) (D.put (.int .i64 (lin zs off k)) (.lit (.int .i32 (N : Int)))) (w1.setCell ⟨w.heap.size + 1, 3, none⟩ (.int .i64 ((N + 1 : Nat) : Int)))) := fun w1 a b => hnew w1 st hq a b
              have HB : Hid (∀ w1, wr.grownBy w1 (some (w.heap.size + 2)) → w1.heap[w.heap.size + 1]? = some (boxX lo (.slice none 0 0) (.map (some (w.heap.size + 2))) N)) := fun w1 hg => (hg.block _ ((Array.getElem?_eq_some_iff.1 st.bx).1) (by simp)).trans st.bx
              have hown := st.rd
              have hvw : (Lit.int .i32 (N : Int)).wf = true := by simp [Lit.wf, IntKind.min, IntKind.max, IntKind.signed, IntKind.bits]; omega
              clear hrun hv h3 h4 hold hnew hz st
              go_wp2_with (at_mapUpdate; refine wpList_mapUpdate_own _ rfl _ _ _ 60 rfl 3 21 law3 Yba.underlying60 _ (w.heap.size + 2) c _ rfl hown (by unfold maxLen; omega) _ _ _ rfl rfl hkey _ [] (plainElem_int Yba.underlying21 hvw) ?_; intro w1 hown1 hg1; have hb1 := HB.out w1 hg1; have x3' := (boxX_cell hb1).2.2.2.1; have xf' := (boxX_cell hb1).2.2.2.2 3; clear hb1)
              go_roundw
              case rel => exact ⟨k + 1, c + 1, N + 1, _, _, by omega, by go_num, HN.out _ hown1 hg1⟩
              case measure => simp [intOf]; omega
            | some a =>
              rw [hq] at hrun
              have hrun' : (Instr.lookup 60 (.map (some (w.heap.size + 2))) (.int .i64 (lin zs off k)) true).run Yba.prog wr = .ok (.tuple #[.int .i32 x, .bool true]) wr := hrun
              have hold' := hold hq
              clear hrun hv h3 h4 hold hnew hz st
              go_wp2_with fail
              go_roundw
              case rel => exact ⟨k + 1, c, N, q, D, by omega, by go_num, hold'⟩
              case measure => simp [intOf]; omega
          · obtain rfl : k = j := by omega
            obtain ⟨x0, x1, x2, x3, xf⟩ := boxX_cell st.bx
            obtain ⟨r0, r1, r2, r3, rf⟩ := boxX_cell st.rr
            have f0 := rf 0; have f1 := rf 1; have f2 := rf 2; have f3 := rf 3
            have hend := st.end ⟨l1, l2⟩
            clear hz
            go_wp2_with fail
            refine bodyPost_ret (v := .agg #[.int .i64 lo, .slice none 0 0, .map (some (w.heap.size + 2)), .int .i64 N]) (by simp [results, Yba.results21, go_sem, *]) rfl (hend _ _ _ _)
end Go.Proofs.Ybulkdwba.lawB

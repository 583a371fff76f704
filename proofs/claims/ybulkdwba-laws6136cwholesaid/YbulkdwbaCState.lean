/-
  FOR 'Rows.LawS6136CWholeSaid': what the law's own loop keeps of memory; the input as the walk is told of it. No walk here.
-/
import Derived.Test.YbulkdwbaCTrim
namespace Go.Proofs.Ybulkdwba.lawC
open Go.ChangeShapes Go.WideShapes Go.ChangeAt Go.RowKit Go.Deep
set_option linter.unusedVariables false

/-- A slice of numbers that came in: its first 'len' numbers are those of zs. -/
def InI (w : World) (sa : Option Addr) (len cap : Nat) (zs : List Int) : Prop :=
  len ≤ zs.length ∧ (sa = none → len = 0 ∧ cap = 0) ∧ (0 < len → ∃ b off, sa = some ⟨b, off, none⟩ ∧ b < w.heap.size ∧ ∀ j, j < len → w.cell? ⟨b, off + j, none⟩ = some (.int .i64 (zs[j]?.getD 0)))

theorem InI.below {w w' : World} {sa : Option Addr} {len cap : Nat} {zs : List Int} (h : InI w sa len cap zs) (hb : Below w.heap.size w w') : InI w' sa len cap zs := by
  obtain ⟨h1, h2, h3⟩ := h
  refine ⟨h1, h2, fun hp => ?_⟩
  obtain ⟨b, off, e, hlt, hc⟩ := h3 hp
  exact ⟨b, off, e, by have := hb.size; omega, fun j hj => by rw [hb.cell (by exact hlt)]; exact hc j hj⟩

/-- What zzs6136cids leaves. -/
def Ids (w : World) (sa : Option Addr) (len : Nat) (zs : List Int) (e : Ending) (w' : World) : Prop :=
  ∃ ra, e = .returned (.slice ra len len) ∧ (ra.isNone = sa.isNone) ∧ Below w.heap.size w w' ∧ IdsAt w'.heap ra ((zs.take len).map id4)

theorem ids_any (sa : Option Addr) (len cap : Nat) (zs : List Int) (w : World) (hl : len ≤ 16384) (h : InI w sa len cap zs) : Calls Yba.prog 12 #[.slice sa len cap] w (Ids w sa len zs) := by
  obtain ⟨h1, h2, h3⟩ := h
  cases sa with
  | none =>
    obtain ⟨rfl, rfl⟩ := h2 rfl
    refine (ids_nil w).mono ?_
    rintro e w' ⟨rfl, rfl⟩
    exact ⟨none, rfl, rfl, Below.refl _ _, fun hp => by simp at hp⟩
  | some x =>
    refine (ids_some x len cap zs w hl h1 ?_).mono ?_
    · intro hp
      obtain ⟨b, off, e, r⟩ := h3 hp
      exact ⟨b, off, by simpa using e, r⟩
    · rintro e w' ⟨rfl, hb, hr⟩
      exact ⟨some ⟨w.heap.size, 0, none⟩, rfl, rfl, hb, fun _ => ⟨w.heap.size, rfl, hr⟩⟩

theorem IdsAt.keep {h h' : Array Obj} {a : Option Addr} {zs : List Int} (i : IdsAt h a zs) (k : ∀ (g : Nat) (o : Obj), h[g]? = some o → h'[g]? = some o) : IdsAt h' a zs := by
  intro hp; obtain ⟨g, e1, e2⟩ := i hp; exact ⟨g, e1, k g _ e2⟩

/-- One change as it came in. -/
structure Rec where
  cf : Bool
  a1 : Int
  a2 : Int
  a3 : Int
  a4 : Int
  a5 : Int
  a6 : Int

/-- A row of changes that came in, in block b from 'off' on. -/
def InC (w : World) (b off n : Nat) (r : Nat → Rec) : Prop := b < w.heap.size ∧ ∀ i, i < n →
  w.cell? ⟨b, off + i * 7, none⟩ = some (.bool (r i).cf) ∧ w.cell? ⟨b, off + i * 7 + 1, none⟩ = some (.int .i64 (r i).a1) ∧ w.cell? ⟨b, off + i * 7 + 2, none⟩ = some (.int .i64 (r i).a2) ∧ w.cell? ⟨b, off + i * 7 + 3, none⟩ = some (.int .i64 (r i).a3) ∧
  w.cell? ⟨b, off + i * 7 + 4, none⟩ = some (.int .i64 (r i).a4) ∧ w.cell? ⟨b, off + i * 7 + 5, none⟩ = some (.int .i64 (r i).a5) ∧ w.cell? ⟨b, off + i * 7 + 6, none⟩ = some (.int .i64 (r i).a6)

def zeroCh : Ch := ⟨false, 0, 0, 0, 0, 0, 0⟩
theorem info51 : (Yba.prog.info? 51).map (fun i => (i.zero, i.size, i.bytes)) = some (some (.agg #[.bool false, .int .i64 0, .int .i64 0, .int .i64 0, .int .i64 0, .int .i64 0, .int .i64 0]), 7, 56) := by kernel_rfl

theorem made_rowC (n : Nat) : Obj.cells (madeCells (Value.cells (.agg #[.bool false, .int .i64 0, .int .i64 0, .int .i64 0, .int .i64 0, .int .i64 0, .int .i64 0])) (n * 7)) 51 = rowC (List.replicate n zeroCh) := by
  unfold rowC
  congr 1
  apply Array.toList_inj.1
  apply List.ext_getElem?
  intro k
  by_cases hk : k < n * 7
  · have h1 := flat_at (List.replicate n zeroCh) (k / 7) (k % 7) zeroCh (by rw [List.getElem?_replicate, if_pos (by omega)]) (by omega)
    rw [show k / 7 * 7 + k % 7 = k by omega] at h1
    rw [List.toList_toArray, h1]
    have h7 : k % 7 < 7 := Nat.mod_lt _ (by omega)
    have h2 : (madeCells (Value.cells (.agg #[.bool false, .int .i64 0, .int .i64 0, .int .i64 0, .int .i64 0, .int .i64 0, .int .i64 0])) (n * 7)).toList[k]? = some ((Value.cells (.agg #[.bool false, .int .i64 0, .int .i64 0, .int .i64 0, .int .i64 0, .int .i64 0, .int .i64 0]))[k % 7]!) := by
      simp [madeCells, hk, Value.cells]
    rw [h2]
    rcases (show k % 7 = 0 ∨ k % 7 = 1 ∨ k % 7 = 2 ∨ k % 7 = 3 ∨ k % 7 = 4 ∨ k % 7 = 5 ∨ k % 7 = 6 by omega) with h | h | h | h | h | h | h <;> rw [h] <;> rfl
  · have h1 : (madeCells (Value.cells (.agg #[.bool false, .int .i64 0, .int .i64 0, .int .i64 0, .int .i64 0, .int .i64 0, .int .i64 0])) (n * 7)).toList.length = n * 7 := by
      rw [Array.length_toList, size_madeCells]
    rw [List.getElem?_eq_none (by omega), List.toList_toArray, List.getElem?_eq_none (by rw [flat_len]; simp; omega)]
theorem run_make51 (n : Nat) (hn : n ≤ 1024) (w : World) : (Instr.makeSlice 44 (.int .i64 (n : Int)) (.int .i64 (n : Int))).run Yba.prog w = .ok (.slice (some ⟨w.heap.size, 0, none⟩) n n) (w.alloc (rowC (List.replicate n zeroCh))) := by
  obtain ⟨i, hi, hz, hs, hb⟩ := info_parts info51
  have hr := run_make (P := Yba.prog) w 44 51 i _ Yba.underlying44 hi hz .i64 .i64 n n (by omega) (Int.le_refl _) (by rw [hb]; omega) (by omega)
  rw [hs] at hr
  simp only [Int.toNat_natCast] at hr
  rw [made_rowC] at hr
  exact hr

/-- A change in a box of its own. -/
def boxC (c : Ch) : Obj := .cells #[.bool c.cf, .int .i64 c.cl, .int .i64 c.ch, .int .i64 c.bl, .int .i64 c.bh, .int .i64 c.ol, .int .i64 c.oh] 51
theorem boxC_row (c : Ch) : boxC c = rowC [c] := rfl
theorem boxC_cell {w : World} {g : Nat} {c : Ch} (h : w.heap[g]? = some (boxC c)) :
    w.cell? ⟨g, 0, none⟩ = some (.bool c.cf) ∧ w.cell? ⟨g, 1, none⟩ = some (.int .i64 c.cl) ∧ w.cell? ⟨g, 2, none⟩ = some (.int .i64 c.ch) ∧ w.cell? ⟨g, 3, none⟩ = some (.int .i64 c.bl) ∧
    w.cell? ⟨g, 4, none⟩ = some (.int .i64 c.bh) ∧ w.cell? ⟨g, 5, none⟩ = some (.int .i64 c.ol) ∧ w.cell? ⟨g, 6, none⟩ = some (.int .i64 c.oh) ∧ ∀ o, w.frozen? ⟨g, o, none⟩ = false := by
  unfold boxC at h
  have e : ∀ f : Nat, w.cell? ⟨g, f, none⟩ = #[Value.bool c.cf, .int .i64 c.cl, .int .i64 c.ch, .int .i64 c.bl, .int .i64 c.bh, .int .i64 c.ol, .int .i64 c.oh][f]? := fun f => cell_of_row w g f _ 51 (0, 0) h
  exact ⟨e 0, e 1, e 2, e 3, e 4, e 5, e 6, fun o => frozen_of_row w g o _ 51 h⟩

/-- Seven cells stored into a row of changes: element i is c. -/
def store7 (w : World) (g i : Nat) (c : Ch) : World :=
  ((((((w.setCell ⟨g, i * 7, none⟩ (.bool c.cf)).setCell ⟨g, i * 7 + 1, none⟩ (.int .i64 c.cl)).setCell ⟨g, i * 7 + 2, none⟩ (.int .i64 c.ch)).setCell ⟨g, i * 7 + 3, none⟩ (.int .i64 c.bl)).setCell ⟨g, i * 7 + 4, none⟩ (.int .i64 c.bh)).setCell ⟨g, i * 7 + 5, none⟩ (.int .i64 c.ol)).setCell ⟨g, i * 7 + 6, none⟩ (.int .i64 c.oh)
theorem store7_row {w : World} {g i : Nat} {cs : List Ch} {z : Ch} (h : w.heap[g]? = some (rowC cs)) (hi : cs[i]? = some z) (c : Ch) : (store7 w g i c).heap[g]? = some (rowC (cs.set i c)) := by
  have hl : i < cs.length := (List.getElem?_eq_some_iff.1 hi).1
  have h0 := rowC_set h (f := 0) hi (by omega) { z with cf := c.cf } (.bool c.cf) rfl
  have h1 := rowC_set h0 (f := 1) (set_at hl _) (by omega) { z with cf := c.cf, cl := c.cl } (.int .i64 c.cl) rfl
  rw [List.set_set] at h1
  have h2 := rowC_set h1 (f := 2) (set_at hl _) (by omega) { z with cf := c.cf, cl := c.cl, ch := c.ch } (.int .i64 c.ch) rfl
  rw [List.set_set] at h2
  have h3 := rowC_set h2 (f := 3) (set_at hl _) (by omega) { z with cf := c.cf, cl := c.cl, ch := c.ch, bl := c.bl } (.int .i64 c.bl) rfl
  rw [List.set_set] at h3
  have h4 := rowC_set h3 (f := 4) (set_at hl _) (by omega) { z with cf := c.cf, cl := c.cl, ch := c.ch, bl := c.bl, bh := c.bh } (.int .i64 c.bh) rfl
  rw [List.set_set] at h4
  have h5 := rowC_set h4 (f := 5) (set_at hl _) (by omega) { z with cf := c.cf, cl := c.cl, ch := c.ch, bl := c.bl, bh := c.bh, ol := c.ol } (.int .i64 c.ol) rfl
  rw [List.set_set] at h5
  have h6 := rowC_set h5 (f := 6) (set_at hl _) (by omega) c (.int .i64 c.oh) rfl
  rw [List.set_set] at h6
  exact h6
theorem store7_other {w : World} {g i : Nat} (c : Ch) (k : Nat) (h : k ≠ g) : (store7 w g i c).heap[k]? = w.heap[k]? := by
  unfold store7
  rw [heap_setCell_other _ _ _ _ (by exact h), heap_setCell_other _ _ _ _ (by exact h), heap_setCell_other _ _ _ _ (by exact h), heap_setCell_other _ _ _ _ (by exact h), heap_setCell_other _ _ _ _ (by exact h), heap_setCell_other _ _ _ _ (by exact h), heap_setCell_other _ _ _ _ (by exact h)]
theorem store7_below {B : Nat} {w w' : World} (h : Below B w w') (g i : Nat) (hg : B ≤ g) (c : Ch) : Below B w (store7 w' g i c) :=
  ((((((h.setCell hg _).setCell hg _).setCell hg _).setCell hg _).setCell hg _).setCell hg _).setCell hg _

/-- What the law's own loop keeps: the changes xs laid so far in block C, what is wanted of them in block W, the two texts in A and B. -/
structure St (w : World) (A B C W : Nat) (ra rb : Option Addr) (ci oi : List Int) (n : Nat) (xs ys : List Ch) (h : World) : Prop where
  rc : h.heap[C]? = some (rowC (xs ++ List.replicate (n - xs.length) zeroCh))
  rw : h.heap[W]? = some (rowC (ys ++ List.replicate (n - ys.length) zeroCh))
  ta : h.heap[A]? = some (boxT (.slice ra ci.length ci.length))
  tb : h.heap[B]? = some (boxT (.slice rb oi.length oi.length))
  ia : IdsAt h.heap ra ci
  ib : IdsAt h.heap rb oi
  ne : C ≠ W
  ok : ∀ c ∈ xs, c.ok ci.length oi.length
  loC : w.heap.size ≤ C
  loW : w.heap.size ≤ W
  bel : Below w.heap.size w h

section
variable {w : World} {A B C W : Nat} {ra rb : Option Addr} {ci oi : List Int} {n : Nat} {xs ys : List Ch} {h h' : World}

theorem lt_of_some {H : Array Obj} {b : Nat} {o : Obj} (hb : H[b]? = some o) : b < H.size := (Array.getElem?_eq_some_iff.1 hb).1

theorem St.below (s : St w A B C W ra rb ci oi n xs ys h) (hb : Below h.heap.size h h') : St w A B C W ra rb ci oi n xs ys h' := by
  have k : ∀ (g : Nat) (o : Obj), h.heap[g]? = some o → h'.heap[g]? = some o := fun g o hg => (hb.block g (lt_of_some hg)).trans hg
  exact ⟨k _ _ s.rc, k _ _ s.rw, k _ _ s.ta, k _ _ s.tb, s.ia.keep k, s.ib.keep k, s.ne, s.ok, s.loC, s.loW, s.bel.trans (hb.mono (by have := s.bel.size; omega))⟩

/-- A store into a box of a change (neither of the two rows). -/
theorem St.box (s : St w A B C W ra rb ci oi n xs ys h) {g o : Nat} {v : Value} {c : Ch} (hg : h.heap[g]? = some (boxC c)) (h1 : g ≠ C) (h2 : g ≠ W) (h3 : w.heap.size ≤ g) : St w A B C W ra rb ci oi n xs ys (h.setCell ⟨g, o, none⟩ v) := by
  have k : ∀ (k : Nat) (ob : Obj), k ≠ g → h.heap[k]? = some ob → (h.setCell ⟨g, o, none⟩ v).heap[k]? = some ob := fun k ob hk hh => by rw [heap_setCell_other _ _ _ _ (by exact hk)]; exact hh
  have kt : ∀ (k : Nat) (v' : Value), h.heap[k]? = some (boxT v') → (h.setCell ⟨g, o, none⟩ v).heap[k]? = some (boxT v') := fun k' v' hh => k _ _ (fun e => by rw [e, hg, boxC_row] at hh; exact boxT_ne (by simpa using hh.symm)) hh
  have ki : ∀ (k : Nat) (zs : List Int), h.heap[k]? = some (rowI zs) → (h.setCell ⟨g, o, none⟩ v).heap[k]? = some (rowI zs) := fun k' zs hh => k _ _ (fun e => by rw [e, hg, boxC_row] at hh; exact rowI_ne (by simpa using hh.symm)) hh
  refine ⟨k _ _ (Ne.symm h1) s.rc, k _ _ (Ne.symm h2) s.rw, kt _ _ s.ta, kt _ _ s.tb, ?_, ?_, s.ne, s.ok, s.loC, s.loW, s.bel.setCell h3 _⟩
  · intro hp; obtain ⟨g', e1, e2⟩ := s.ia hp; exact ⟨g', e1, ki _ _ e2⟩
  · intro hp; obtain ⟨g', e1, e2⟩ := s.ib hp; exact ⟨g', e1, ki _ _ e2⟩

theorem push_at (hl : xs.length < n) : (xs ++ List.replicate (n - xs.length) zeroCh)[xs.length]? = some zeroCh := by
  rw [List.getElem?_append_right (by omega), List.getElem?_replicate, if_pos (by omega)]
theorem push_set (hl : xs.length < n) (c : Ch) : (xs ++ List.replicate (n - xs.length) zeroCh).set xs.length c = (xs ++ [c]) ++ List.replicate (n - (xs ++ [c]).length) zeroCh := by
  rw [List.set_append_right _ _ (Nat.le_refl _), Nat.sub_self, show n - xs.length = (n - (xs ++ [c]).length) + 1 by simp; omega, List.replicate_succ, List.set_cons_zero]
  simp

/-- A change laid into the row C. -/
theorem St.pushC (s : St w A B C W ra rb ci oi n xs ys h) (hl : xs.length < n) (c : Ch) (hc : c.ok ci.length oi.length) : St w A B C W ra rb ci oi n (xs ++ [c]) ys (store7 h C xs.length c) := by
  have kt : ∀ (k : Nat) (v' : Value), h.heap[k]? = some (boxT v') → (store7 h C xs.length c).heap[k]? = some (boxT v') := fun k v' hh => by
    rw [store7_other c k (fun e => by rw [e, s.rc] at hh; exact boxT_ne (by simpa using hh.symm))]; exact hh
  have ki : ∀ (k : Nat) (zs : List Int), h.heap[k]? = some (rowI zs) → (store7 h C xs.length c).heap[k]? = some (rowI zs) := fun k zs hh => by
    rw [store7_other c k (fun e => by rw [e, s.rc] at hh; exact rowI_ne (by simpa using hh.symm))]; exact hh
  refine ⟨?_, by rw [store7_other c W (Ne.symm s.ne)]; exact s.rw, kt _ _ s.ta, kt _ _ s.tb, ?_, ?_, s.ne, ?_, s.loC, s.loW, store7_below s.bel _ _ s.loC _⟩
  · rw [← push_set hl c]; exact store7_row s.rc (push_at hl) c
  · intro hp; obtain ⟨g', e1, e2⟩ := s.ia hp; exact ⟨g', e1, ki _ _ e2⟩
  · intro hp; obtain ⟨g', e1, e2⟩ := s.ib hp; exact ⟨g', e1, ki _ _ e2⟩
  · intro d hd
    rcases List.mem_append.1 hd with h | h
    · exact s.ok d h
    · simp at h; subst h; exact hc
/-- A wanted change laid into the row W. -/
theorem St.pushW (s : St w A B C W ra rb ci oi n xs ys h) (hl : ys.length < n) (c : Ch) : St w A B C W ra rb ci oi n xs (ys ++ [c]) (store7 h W ys.length c) := by
  have kt : ∀ (k : Nat) (v' : Value), h.heap[k]? = some (boxT v') → (store7 h W ys.length c).heap[k]? = some (boxT v') := fun k v' hh => by
    rw [store7_other c k (fun e => by rw [e, s.rw] at hh; exact boxT_ne (by simpa using hh.symm))]; exact hh
  have ki : ∀ (k : Nat) (zs : List Int), h.heap[k]? = some (rowI zs) → (store7 h W ys.length c).heap[k]? = some (rowI zs) := fun k zs hh => by
    rw [store7_other c k (fun e => by rw [e, s.rw] at hh; exact rowI_ne (by simpa using hh.symm))]; exact hh
  refine ⟨by rw [store7_other c C s.ne]; exact s.rc, ?_, kt _ _ s.ta, kt _ _ s.tb, ?_, ?_, s.ne, s.ok, s.loC, s.loW, store7_below s.bel _ _ s.loW _⟩
  · rw [← push_set hl c]; exact store7_row s.rw (push_at hl) c
  · intro hp; obtain ⟨g', e1, e2⟩ := s.ia hp; exact ⟨g', e1, ki _ _ e2⟩
  · intro hp; obtain ⟨g', e1, e2⟩ := s.ib hp; exact ⟨g', e1, ki _ _ e2⟩
end

theorem al3_0 (w : World) (o1 o2 o3 : Obj) : (((w.alloc o1).alloc o2).alloc o3).heap[w.heap.size]? = some o1 := by
  show (((w.heap.push o1).push o2).push o3)[w.heap.size]? = _
  simp only [Array.getElem?_push, Array.size_push]
  rw [if_neg (by omega), if_neg (by omega), if_pos trivial]
theorem al3_1 (w : World) (o1 o2 o3 : Obj) : (((w.alloc o1).alloc o2).alloc o3).heap[w.heap.size + 1]? = some o2 := by
  show (((w.heap.push o1).push o2).push o3)[w.heap.size + 1]? = _
  simp only [Array.getElem?_push, Array.size_push]
  rw [if_neg (by omega), if_pos trivial]
theorem al3_2 (w : World) (o1 o2 o3 : Obj) : (((w.alloc o1).alloc o2).alloc o3).heap[w.heap.size + 1 + 1]? = some o3 := by
  show (((w.heap.push o1).push o2).push o3)[w.heap.size + 1 + 1]? = _
  simp only [Array.getElem?_push, Array.size_push]
  rw [if_pos trivial]
theorem below3 (w : World) (o1 o2 o3 : Obj) : Below w.heap.size w (((w.alloc o1).alloc o2).alloc o3) :=
  (((Below.refl _ _).alloc (Nat.le_refl _) _).alloc (by simp) _).alloc (by simp; omega) _

/-- The four cells by which a box of a change is trimmed. -/
theorem boxC_trim {w : World} {g : Nat} {ci oi : List Int} {c : Ch} (h : w.heap[g]? = some (boxC c)) (hcf : c.cf = true) (hs1 : sfx ci oi c ≤ c.ch) (hs2 : sfx ci oi c ≤ c.oh) :
    ((((w.setCell ⟨g, 1, none⟩ (.int .i64 (↑c.cl + ↑(pfx ci oi c)))).setCell ⟨g, 2, none⟩ (.int .i64 (↑c.ch - ↑(sfx ci oi c)))).setCell ⟨g, 5, none⟩ (.int .i64 (↑c.ol + ↑(pfx ci oi c)))).setCell ⟨g, 6, none⟩ (.int .i64 (↑c.oh - ↑(sfx ci oi c)))).heap[g]? = some (boxC (trim ci oi c)) := by
  have e1 : (c.ch : Int) - ↑(sfx ci oi c) = ((c.ch - sfx ci oi c : Nat) : Int) := by omega
  have e2 : (c.oh : Int) - ↑(sfx ci oi c) = ((c.oh - sfx ci oi c : Nat) : Int) := by omega
  rw [e1, e2, ← Int.natCast_add, ← Int.natCast_add]
  rw [boxC_row] at h
  have h1 := rowC_set h (j := 0) (f := 1) rfl (by omega) { c with cl := c.cl + pfx ci oi c } (.int .i64 ((c.cl + pfx ci oi c : Nat) : Int)) rfl
  have h2 := rowC_set h1 (j := 0) (f := 2) rfl (by omega) { c with cl := c.cl + pfx ci oi c, ch := c.ch - sfx ci oi c } (.int .i64 ((c.ch - sfx ci oi c : Nat) : Int)) rfl
  have h3 := rowC_set h2 (j := 0) (f := 5) rfl (by omega) { c with cl := c.cl + pfx ci oi c, ch := c.ch - sfx ci oi c, ol := c.ol + pfx ci oi c } (.int .i64 ((c.ol + pfx ci oi c : Nat) : Int)) rfl
  have h4 := rowC_set h3 (j := 0) (f := 6) rfl (by omega) { c with cl := c.cl + pfx ci oi c, ch := c.ch - sfx ci oi c, ol := c.ol + pfx ci oi c, oh := c.oh - sfx ci oi c } (.int .i64 ((c.oh - sfx ci oi c : Nat) : Int)) rfl
  have e : trim ci oi c = { c with cl := c.cl + pfx ci oi c, ch := c.ch - sfx ci oi c, ol := c.ol + pfx ci oi c, oh := c.oh - sfx ci oi c } := by unfold trim; rw [if_pos hcf]
  rw [e, boxC_row]
  exact h4
/-- A store into a box of a change, whatever lies in it: what St says stays. -/
theorem St.box' {w : World} {A B C W : Nat} {ra rb : Option Addr} {ci oi : List Int} {n : Nat} {xs ys : List Ch} {h : World} (s : St w A B C W ra rb ci oi n xs ys h) {g o : Nat} {v : Value} {cs : Array Value} (hg : h.heap[g]? = some (.cells cs 51)) (h1 : g ≠ C) (h2 : g ≠ W) (h3 : w.heap.size ≤ g) : St w A B C W ra rb ci oi n xs ys (h.setCell ⟨g, o, none⟩ v) := by
  have k : ∀ (k : Nat) (ob : Obj), k ≠ g → h.heap[k]? = some ob → (h.setCell ⟨g, o, none⟩ v).heap[k]? = some ob := fun k ob hk hh => by rw [heap_setCell_other _ _ _ _ (by exact hk)]; exact hh
  have kt : ∀ (k : Nat) (v' : Value), h.heap[k]? = some (boxT v') → (h.setCell ⟨g, o, none⟩ v).heap[k]? = some (boxT v') := fun k' v' hh => k _ _ (fun e => by rw [e, hg] at hh; simp [boxT] at hh) hh
  have ki : ∀ (k : Nat) (zs : List Int), h.heap[k]? = some (rowI zs) → (h.setCell ⟨g, o, none⟩ v).heap[k]? = some (rowI zs) := fun k' zs hh => k _ _ (fun e => by rw [e, hg] at hh; simp [rowI] at hh) hh
  refine ⟨k _ _ (Ne.symm h1) s.rc, k _ _ (Ne.symm h2) s.rw, kt _ _ s.ta, kt _ _ s.tb, ?_, ?_, s.ne, s.ok, s.loC, s.loW, s.bel.setCell h3 _⟩
  · intro hp; obtain ⟨g', e1, e2⟩ := s.ia hp; exact ⟨g', e1, ki _ _ e2⟩
  · intro hp; obtain ⟨g', e1, e2⟩ := s.ib hp; exact ⟨g', e1, ki _ _ e2⟩
theorem St.box4 {w : World} {A B C W : Nat} {ra rb : Option Addr} {ci oi : List Int} {n : Nat} {xs ys : List Ch} {h : World} (s : St w A B C W ra rb ci oi n xs ys h) {g : Nat} {o1 o2 o3 o4 : Nat} {v1 v2 v3 v4 : Value} {c : Ch} (hg : h.heap[g]? = some (boxC c)) (h1 : g ≠ C) (h2 : g ≠ W) (h3 : w.heap.size ≤ g) :
    St w A B C W ra rb ci oi n xs ys ((((h.setCell ⟨g, o1, none⟩ v1).setCell ⟨g, o2, none⟩ v2).setCell ⟨g, o3, none⟩ v3).setCell ⟨g, o4, none⟩ v4) := by
  unfold boxC at hg
  have g1 := heap_setCell_same _ g o1 _ _ v1 hg
  have g2 := heap_setCell_same _ g o2 _ _ v2 g1
  have g3 := heap_setCell_same _ g o3 _ _ v3 g2
  exact (((s.box' hg h1 h2 h3).box' g1 h1 h2 h3).box' g2 h1 h2 h3).box' g3 h1 h2 h3

/-- What the law's last tests read: the two texts and their ids; the input is as it was. -/
structure Tl (w : World) (A B : Nat) (ra rb : Option Addr) (la lb : Nat) (ci oi : List Int) (h : World) : Prop where
  ta : h.heap[A]? = some (boxT (.slice ra la la))
  tb : h.heap[B]? = some (boxT (.slice rb lb lb))
  ia : IdsAt h.heap ra ci
  ib : IdsAt h.heap rb oi
  bel : Below w.heap.size w h
section
variable {w : World} {A B : Nat} {ra rb : Option Addr} {la lb : Nat} {ci oi : List Int} {h h' : World}
theorem Tl.below (t : Tl w A B ra rb la lb ci oi h) (hb : Below h.heap.size h h') : Tl w A B ra rb la lb ci oi h' := by
  have k : ∀ (g : Nat) (o : Obj), h.heap[g]? = some o → h'.heap[g]? = some o := fun g o hg => (hb.block g (lt_of_some hg)).trans hg
  exact ⟨k _ _ t.ta, k _ _ t.tb, t.ia.keep k, t.ib.keep k, t.bel.trans (hb.mono (by have := t.bel.size; omega))⟩
theorem Tl.drewN (t : Tl w A B ra rb la lb ci oi h) (q : Nat) : Tl w A B ra rb la lb ci oi (h.drewN q) := ⟨t.ta, t.tb, t.ia, t.ib, ⟨t.bel.os, t.bel.tape, t.bel.output, t.bel.size, t.bel.block⟩⟩
theorem Tl.held (t : Tl w A B ra rb la lb ci oi h) : h.cell? ⟨A, 2, none⟩ = some (.slice ra la la) ∧ h.cell? ⟨B, 2, none⟩ = some (.slice rb lb lb) ∧ Tl w A B ra rb la lb ci oi h := ⟨boxT_cell t.ta, boxT_cell t.tb, t⟩
theorem Tl.held_drew (t : Tl w A B ra rb la lb ci oi h) : h.drew.cell? ⟨A, 2, none⟩ = some (.slice ra la la) ∧ h.drew.cell? ⟨B, 2, none⟩ = some (.slice rb lb lb) ∧ Tl w A B ra rb la lb ci oi h.drew := (t.drewN 1).held
theorem held_next (hb : Below h.heap.size h h') (s : h.cell? ⟨A, 2, none⟩ = some (.slice ra la la) ∧ h.cell? ⟨B, 2, none⟩ = some (.slice rb lb lb) ∧ Tl w A B ra rb la lb ci oi h) :
    h'.cell? ⟨A, 2, none⟩ = some (.slice ra la la) ∧ h'.cell? ⟨B, 2, none⟩ = some (.slice rb lb lb) ∧ Tl w A B ra rb la lb ci oi h' := (s.2.2.below hb).held
theorem held_drewN {q : Nat} (s : h.cell? ⟨A, 2, none⟩ = some (.slice ra la la) ∧ h.cell? ⟨B, 2, none⟩ = some (.slice rb lb lb) ∧ Tl w A B ra rb la lb ci oi h) :
    (h.drewN q).cell? ⟨A, 2, none⟩ = some (.slice ra la la) ∧ (h.drewN q).cell? ⟨B, 2, none⟩ = some (.slice rb lb lb) ∧ Tl w A B ra rb la lb ci oi (h.drewN q) := (s.2.2.drewN q).held
theorem inI_held {sa : Option Addr} {len cap : Nat} {zs : List Int} (i : InI w sa len cap zs) (s : h.cell? ⟨A, 2, none⟩ = some (.slice ra la la) ∧ h.cell? ⟨B, 2, none⟩ = some (.slice rb lb lb) ∧ Tl w A B ra rb la lb ci oi h) : InI h sa len cap zs := i.below s.2.2.bel
theorem ids_a (hl : ci.length = la) (s : h.cell? ⟨A, 2, none⟩ = some (.slice ra la la) ∧ h.cell? ⟨B, 2, none⟩ = some (.slice rb lb lb) ∧ Tl w A B ra rb la lb ci oi h) : 0 < la → ∃ g, ra = some ⟨g, 0, none⟩ ∧ h.heap[g]? = some (rowI ci) := by rw [← hl]; exact s.2.2.ia
theorem ids_b (hl : oi.length = lb) (s : h.cell? ⟨A, 2, none⟩ = some (.slice ra la la) ∧ h.cell? ⟨B, 2, none⟩ = some (.slice rb lb lb) ∧ Tl w A B ra rb la lb ci oi h) : 0 < lb → ∃ g, rb = some ⟨g, 0, none⟩ ∧ h.heap[g]? = some (rowI oi) := by rw [← hl]; exact s.2.2.ib
end
theorem ids_of {H : Array Obj} {r : Option Addr} {zs ci : List Int} {l : Nat} (hc : ci = (zs.take l).map id4) (hl : ci.length = l) (i : IdsAt H r ((zs.take l).map id4)) : 0 < l → ∃ g, r = some ⟨g, 0, none⟩ ∧ H[g]? = some (rowI ci) := by
  rw [← hc] at i; rw [← hl]; exact i

theorem neq_ptr (C : Nat) (w : World) : (binOp .neq 53 (.pointer (some ⟨C, 0, none⟩)) (.pointer (some ⟨C, 0, none⟩))).run Yba.prog w = .ok (.bool false) w := by
  obtain ⟨i, hi, _⟩ := info_parts info51
  have h : ∀ d : Nat, (Op.equalIn (d + 1) 53 (.pointer (some ⟨C, 0, none⟩)) (.pointer (some ⟨C, 0, none⟩))).run Yba.prog w = .ok true w := fun d => by
    simp [Op.equalIn, run_underlying Yba.underlying53, sizeOf, typeInfo, hi, sameAddr]
  simp only [binOp]
  simp [Op.equal, Op.maxDepth, h 9999]

theorem boxT_nils {w : World} {g : Nat} {v : Value} (h : w.heap[g]? = some (boxT v)) : w.cell? ⟨g, 0, none⟩ = some (.slice none 0 0) ∧ w.cell? ⟨g, 1, none⟩ = some (.slice none 0 0) := by
  unfold boxT at h
  exact ⟨by rw [cell_of_row w g 0 _ 43 (0, 0) h]; rfl, by rw [cell_of_row w g 1 _ 43 (0, 0) h]; rfl⟩
theorem St_start {w w1 w2 : World} {ra rb : Option Addr} {ci oi : List Int} {n : Nat} (hb1 : Below w.heap.size w w1) (hb2 : Below w1.heap.size w1 w2) (hia : IdsAt w1.heap ra ci) (hib : IdsAt w2.heap rb oi) :
    St w w2.heap.size (w2.heap.size + 1) (w2.heap.size + 1 + 1) (w2.heap.size + 1 + 1 + 1) ra rb ci oi n [] []
      ((((w2.alloc (boxT (.slice ra ci.length ci.length))).alloc (boxT (.slice rb oi.length oi.length))).alloc (rowC (List.replicate n zeroCh))).alloc (rowC (List.replicate n zeroCh))) := by
  have s1 := hb1.size
  have s2 := hb2.size
  have k : ∀ (g : Nat) (o : Obj), w2.heap[g]? = some o → ((((w2.alloc (boxT (.slice ra ci.length ci.length))).alloc (boxT (.slice rb oi.length oi.length))).alloc (rowC (List.replicate n zeroCh))).alloc (rowC (List.replicate n zeroCh))).heap[g]? = some o := by
    intro g o hg
    have := lt_of_some hg
    rw [Below.heap_alloc _ _ _ (by simp; omega), Below.heap_alloc _ _ _ (by simp; omega), Below.heap_alloc _ _ _ (by simp; omega), Below.heap_alloc _ _ _ (by omega)]
    exact hg
  refine ⟨?_, ?_, ?_, ?_, IdsAt.keep (IdsAt.keep hia fun g o hg => (hb2.block g (lt_of_some hg)).trans hg) k, IdsAt.keep hib k, by omega, fun c hc => by simp at hc, by omega, by omega, ?_⟩
  · rw [Below.heap_alloc _ _ _ (by simp)]; exact al3_2 _ _ _ _
  · show ((((w2.heap.push _).push _).push _).push _)[w2.heap.size + 1 + 1 + 1]? = _
    simp only [Array.getElem?_push, Array.size_push]
    rw [if_pos trivial]; rfl
  · rw [Below.heap_alloc _ _ _ (by simp; omega)]; exact al3_0 _ _ _ _
  · rw [Below.heap_alloc _ _ _ (by simp)]; exact al3_1 _ _ _ _
  · exact (hb1.trans (hb2.mono s1)).trans (((below3 _ _ _ _).alloc (by simp; omega) _).mono (by omega))

set_option maxRecDepth 100000 in
theorem trim_nil (p q : Value) (w : World) : Calls Yba.prog 14 #[.slice none 0 0, p, q] w fun e w' => e = .returned (.slice none 0 0) ∧ w' = w := by
  go_enter Yba.func14, Yba.ntmps14
  go_wp2
  refine wp_loop_rounds 1 ?_
  rw [rounds_succ]
  go_wp2
  go_ret
  exact ⟨rfl, rfl⟩
end Go.Proofs.Ybulkdwba.lawC

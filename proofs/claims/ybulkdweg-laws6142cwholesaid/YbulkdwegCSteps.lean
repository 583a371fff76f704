/-
  FOR 'Rows.LawS6142CWholeSaid': what each step does to the memory of the call's own: a chain of 'Type' boxes, and the row of wanted kinds. No walk here.
-/
import Derived.Test.YbulkdwegCBase
namespace Go.Proofs.Ybulkdweg.lawS6142CWhole
open Go.ChangeShapes Go.WideShapes Go.ChangeAt Go.RowKit
set_option linter.unusedVariables false

/-- A box that holds a 'Type' of kind k whose 'elem' is p. -/
def box (k : Int) (p : Option Addr) : Obj := .cells #[.int .u8 k, .pointer p, .slice none 0 0, .slice none 0 0] 42

/-- The kinds, outermost first, behind the first j wraps. -/
def ks (zs : List Int) (j : Nat) : List Int := ((zs.take j).map kd).reverse

theorem ks_succ (zs : List Int) (j : Nat) (h : j < zs.length) : ks zs (j + 1) = kd (zs[j]?.getD 0) :: ks zs j := by
  have e : zs[j]?.getD 0 = zs[j] := by simp [h]
  unfold ks
  rw [List.take_succ_eq_append_getElem h, List.map_append, List.reverse_append, e]
  rfl

theorem kd_ne (u : Int) : kd u ≠ 0 := by unfold kd; split <;> (try split) <;> omega
theorem kd_le (u : Int) : 0 ≤ kd u ∧ kd u ≤ 255 := by unfold kd; split <;> (try split) <;> omega
theorem ks_ne (zs : List Int) (j : Nat) : ∀ x ∈ ks zs j, x ≠ 0 := by
  intro x hx
  unfold ks at hx
  obtain ⟨a, _, rfl⟩ := List.mem_map.1 (List.mem_reverse.1 hx)
  exact kd_ne a

/-- 'k, p' are the kind and the 'elem' of a chain of 'Type's whose kinds are l, each box in a block that meets P; the innermost is the zero 'Type'. -/
def Chain (P : Nat → Prop) (h : Array Obj) : List Int → Int → Option Addr → Prop
  | [], k, p => k = 0 ∧ p = none
  | x :: xs, k, p => k = x ∧ ∃ b k' p', p = some ⟨b, 0, none⟩ ∧ P b ∧ h[b]? = some (box k' p') ∧ Chain P h xs k' p'

theorem Chain.keep {P P' : Nat → Prop} {h h' : Array Obj} (hk : ∀ b o, P b → h[b]? = some o → P' b ∧ h'[b]? = some o) : ∀ (l : List Int) (k : Int) (p : Option Addr), Chain P h l k p → Chain P' h' l k p
  | [], _, _, c => c
  | x :: xs, k, p, ⟨e, b, k', p', ep, pb, hb, c⟩ => ⟨e, b, k', p', ep, (hk b _ pb hb).1, (hk b _ pb hb).2, Chain.keep hk xs k' p' c⟩

theorem lt_of_some {h : Array Obj} {b : Nat} {o : Obj} (hb : h[b]? = some o) : b < h.size := (Array.getElem?_eq_some_iff.1 hb).1

/-- The first loop's state: the variable t in block w.heap.size. -/
def R1 (w : World) (zs : List Int) (j : Nat) (wr : World) (k : Int) (p : Option Addr) : Prop :=
  wr.heap[w.heap.size]? = some (box k p) ∧ Chain (· ≠ w.heap.size) wr.heap (ks zs j) k p ∧ Below w.heap.size w wr

theorem heap_set4 (w' : World) (T : Nat) (k0 : Int) (p0 : Option Addr) (k : Int) (p : Option Addr) (h : w'.heap[T]? = some (box k0 p0)) :
    ((((w'.setCell ⟨T, 0, none⟩ (.int .u8 k)).setCell ⟨T, 1, none⟩ (.pointer p)).setCell ⟨T, 2, none⟩ (.slice none 0 0)).setCell ⟨T, 3, none⟩ (.slice none 0 0)).heap[T]? = some (box k p) := by
  have h1 := heap_setCell_same w' T 0 _ _ (.int .u8 k) h
  have h2 := heap_setCell_same _ T 1 _ _ (.pointer p) h1
  have h3 := heap_setCell_same _ T 2 _ _ (.slice none 0 0) h2
  have h4 := heap_setCell_same _ T 3 _ _ (.slice none 0 0) h3
  rw [h4]; rfl
theorem heap_set4_other (w' : World) (T : Nat) (a b c d : Value) (i : Nat) (h : i ≠ T) :
    ((((w'.setCell ⟨T, 0, none⟩ a).setCell ⟨T, 1, none⟩ b).setCell ⟨T, 2, none⟩ c).setCell ⟨T, 3, none⟩ d).heap[i]? = w'.heap[i]? := by
  rw [heap_setCell_other _ _ _ _ (by exact h), heap_setCell_other _ _ _ _ (by exact h), heap_setCell_other _ _ _ _ (by exact h), heap_setCell_other _ _ _ _ (by exact h)]
theorem below_set4 {B : Nat} {w w' : World} (hb : Below B w w') (T : Nat) (hT : B ≤ T) (a b c d : Value) :
    Below B w ((((w'.setCell ⟨T, 0, none⟩ a).setCell ⟨T, 1, none⟩ b).setCell ⟨T, 2, none⟩ c).setCell ⟨T, 3, none⟩ d) :=
  (((hb.setCell hT _).setCell hT _).setCell hT _).setCell hT _

theorem R1_start (w : World) (zs : List Int) : R1 w zs 0 (w.alloc (box 0 none)) 0 none :=
  ⟨heap_alloc_new _ _, ⟨rfl, rfl⟩, (Below.refl _ _).alloc (Nat.le_refl _) _⟩

theorem R1_step {w wr w' : World} {zs : List Int} {j : Nat} {k : Int} {p : Option Addr} {b' : Nat} (hj : j < zs.length) (r : R1 w zs j wr k p) (h1 : wr.heap.size ≤ b') (h2 : Below wr.heap.size wr w') (h3 : w'.heap[b']? = some (box k p)) :
    R1 w zs (j + 1) ((((w'.setCell ⟨w.heap.size, 0, none⟩ (.int .u8 (kd (zs[j]?.getD 0)))).setCell ⟨w.heap.size, 1, none⟩ (.pointer (some ⟨b', 0, none⟩))).setCell ⟨w.heap.size, 2, none⟩ (.slice none 0 0)).setCell ⟨w.heap.size, 3, none⟩ (.slice none 0 0)) (kd (zs[j]?.getD 0)) (some ⟨b', 0, none⟩) := by
  obtain ⟨r1, r2, r3⟩ := r
  have hT : w.heap.size < wr.heap.size := lt_of_some r1
  have e1 : w'.heap[w.heap.size]? = some (box k p) := (h2.block _ hT).trans r1
  refine ⟨heap_set4 _ _ _ _ _ _ e1, ?_, below_set4 (r3.trans (h2.mono (by omega))) _ (Nat.le_refl _) _ _ _ _⟩
  rw [ks_succ zs j hj]
  refine ⟨rfl, b', k, p, rfl, by omega, ?_, ?_⟩
  · rw [heap_set4_other _ _ _ _ _ _ _ (by omega)]; exact h3
  · refine Chain.keep ?_ _ _ _ r2
    intro b o hb ho
    refine ⟨hb, ?_⟩
    rw [heap_set4_other _ _ _ _ _ _ _ hb, h2.block _ (lt_of_some ho)]
    exact ho

/-- The state behind 'make': the wanted kinds so far, xs, lie in block M. -/
structure R2 (w : World) (zs : List Int) (len M : Nat) (xs : List Int) (k : Int) (p : Option Addr) (wr : World) : Prop where
  t : wr.heap[w.heap.size]? = some (box k p)
  chain : Chain (· ≠ M) wr.heap (ks zs len) k p
  bel : Below w.heap.size w wr
  lo : w.heap.size < M
  own : wr.ownsRow M 37 1 (.slice (some ⟨M, 0, none⟩) xs.length (len + 2)) xs.length (xs.map (Value.int .u8))

theorem R2_start {w wr w1 : World} {zs : List Int} {len : Nat} {k : Int} {p : Option Addr} (r : R1 w zs len wr k p) (hown : w1.ownsRow wr.heap.size 37 1 (.slice (some ⟨wr.heap.size, 0, none⟩) 0 (len + 2)) 0 []) (hg : wr.grownBy w1 none) :
    R2 w zs len wr.heap.size [] k p w1 := by
  obtain ⟨r1, r2, r3⟩ := r
  have hT : w.heap.size < wr.heap.size := lt_of_some r1
  refine ⟨(hg.block _ hT (by simp)).trans r1, ?_, r3.trans ⟨hg.os, hg.tape, hg.output, hg.size, fun k hk => hg.block k (by omega) (by simp)⟩, hT, hown⟩
  refine Chain.keep ?_ _ _ _ r2
  intro b o hb ho
  have := lt_of_some ho
  exact ⟨by omega, (hg.block b this (by simp)).trans ho⟩

theorem R2_push {w wr w1 : World} {zs : List Int} {len M : Nat} {xs : List Int} {k : Int} {p : Option Addr} {x : Int} {o : Obj} (r : R2 w zs len M xs k p wr)
    (hown : w1.ownsRow M 37 1 (.slice (some ⟨M, 0, none⟩) (xs.length + 1) (len + 2)) (xs.length + 1) (xs.map (Value.int .u8) ++ [.int .u8 x])) (hg : (wr.alloc o).grownBy w1 (some M)) :
    R2 w zs len M (xs ++ [x]) k p w1 := by
  obtain ⟨r1, r2, r3, r4, r5⟩ := r
  have hT : w.heap.size < wr.heap.size := lt_of_some r1
  have hsz : (wr.alloc o).heap.size = wr.heap.size + 1 := by simp
  have hkeep : ∀ b ob, b ≠ M → wr.heap[b]? = some ob → w1.heap[b]? = some ob := by
    intro b ob hb ho
    have := lt_of_some ho
    rw [hg.block b (by omega) (by simpa using hb), Below.heap_alloc wr o b this]
    exact ho
  refine ⟨hkeep _ _ (by omega) r1, Chain.keep (fun b ob hb ho => ⟨hb, hkeep b ob hb ho⟩) _ _ _ r2, ?_, r4, by simpa using hown⟩
  refine (r3.alloc (by omega) o).trans ⟨hg.os, hg.tape, hg.output, hg.size, fun i hi => hg.block i (by omega) (by simp; omega)⟩

/-- The outer kind that 'collect' adds. -/
def pre (n : Int) : List Int := if n = 2 then [5] else if n = 3 then [6] else if n = 4 then [7] else []
theorem pre_ne (n : Int) : ∀ x ∈ pre n, x ≠ 0 := by
  intro x hx; unfold pre at hx; split at hx <;> (try split at hx) <;> (try split at hx) <;> simp at hx <;> omega
theorem pre_len (n : Int) : (pre n).length ≤ 1 := by unfold pre; split <;> (try split) <;> (try split) <;> simp

/-- The kinds from the last wrap down to wrap j. -/
def dn (zs : List Int) (len j : Nat) : List Int := (((zs.take len).drop j).map kd).reverse
theorem dn_top (zs : List Int) (len : Nat) : dn zs len len = [] := by unfold dn; simp
theorem dn_zero (zs : List Int) (len : Nat) : dn zs len 0 = ks zs len := by unfold dn ks; simp
theorem dn_step (zs : List Int) (len j : Nat) (h : j < len) (hl : len ≤ zs.length) : dn zs len j = dn zs len (j + 1) ++ [kd (zs[j]?.getD 0)] := by
  unfold dn
  rw [List.drop_eq_getElem_cons (by simp; omega)]
  simp [show j < zs.length by omega]
theorem dn_len (zs : List Int) (len j : Nat) : (dn zs len j).length ≤ len - j := by unfold dn; simp; omega

/-- What 'collect' leaves of a chain. -/
theorem col_any {P : Nat → Prop} {l : List Int} (n k : Int) (p : Option Addr) (w : World) (h : Chain P w.heap l k p) :
    Calls Yba.prog 8 #[.int .u8 n, .agg #[.int .u8 k, .pointer p, .slice none 0 0, .slice none 0 0]] w fun e w' => ∃ k' p', e = .returned (.agg #[.int .u8 k', .pointer p', .slice none 0 0, .slice none 0 0]) ∧
      Chain (fun _ => True) w'.heap (pre n ++ l) k' p' ∧ Below w.heap.size w w' := by
  have hk : ∀ w' : World, Below w.heap.size w w' → Chain (fun _ => True) w'.heap l k p := fun w' hb =>
    Chain.keep (fun b o _ ho => ⟨trivial, (hb.block b (lt_of_some ho)).trans ho⟩) _ _ _ h
  by_cases h2 : n = 2
  · subst h2
    refine (col2 k p w).mono ?_
    rintro e w' ⟨b, rfl, h1, h2, h3⟩
    exact ⟨5, _, rfl, ⟨rfl, b, k, p, rfl, trivial, h3, hk w' h2⟩, h2⟩
  by_cases h3 : n = 3
  · subst h3
    refine (col3 k p w).mono ?_
    rintro e w' ⟨b, rfl, h1, h2, h3⟩
    exact ⟨6, _, rfl, ⟨rfl, b, k, p, rfl, trivial, h3, hk w' h2⟩, h2⟩
  by_cases h4 : n = 4
  · subst h4
    refine (col4 k p w).mono ?_
    rintro e w' ⟨b, rfl, h1, h2, h3⟩
    exact ⟨7, _, rfl, ⟨rfl, b, k, p, rfl, trivial, h3, hk w' h2⟩, h2⟩
  refine (colN n k p w (by simpa using h2) (by simpa using h3) (by simpa using h4)).mono ?_
  rintro e w' ⟨rfl, h5⟩
  have : pre n = [] := by unfold pre; simp [h2, h3, h4]
  rw [this]
  exact ⟨k, p, rfl, hk w' h5, h5⟩

/-- The third loop's state: r in block R holds the rest of the chain; the row of wanted kinds is as it was. -/
structure R3 (w : World) (M cap : Nat) (R : Nat) (xs : List Int) (i : Nat) (l : List Int) (k : Int) (p : Option Addr) (wr : World) : Prop where
  r : wr.heap[R]? = some (box k p)
  chain : Chain (· ≠ R) wr.heap l k p
  bel : Below w.heap.size w wr
  lo : w.heap.size < M
  lt : M < R
  own : wr.ownsRow M 37 1 (.slice (some ⟨M, 0, none⟩) xs.length cap) xs.length (xs.map (Value.int .u8))
  rest : xs.drop i = l ++ [0]
  ne : ∀ x ∈ l, x ≠ 0

theorem own_lt {wr : World} {M n cap : Nat} {xs : List Value} (h : wr.ownsRow M 37 1 (.slice (some ⟨M, 0, none⟩) n cap) n xs) : M < wr.heap.size := (h.lt M rfl).2

theorem R3_start {w wr w1 : World} {zs : List Int} {len M : Nat} {n : Int} {k k' : Int} {p p' : Option Addr} (r : R2 w zs len M (pre n ++ ks zs len ++ [0]) k p wr) (hb : Below wr.heap.size wr w1)
    (hc : Chain (fun _ => True) w1.heap (pre n ++ ks zs len) k' p') : R3 w M (len + 2) w1.heap.size (pre n ++ ks zs len ++ [0]) 0 (pre n ++ ks zs len) k' p' (w1.alloc (box k' p')) := by
  have hM := own_lt r.own
  have hT := lt_of_some r.t
  have hsz := hb.size
  have hg : wr.grownBy (w1.alloc (box k' p')) none := ⟨hb.os, hb.tape, hb.output, by simp; omega, fun i hi _ => (Below.heap_alloc w1 _ i (by omega)).trans (hb.block i hi)⟩
  refine ⟨heap_alloc_new _ _, ?_, (r.bel.trans (hb.mono (by omega))).alloc (by omega) _, r.lo, by omega, r.own.kept hg (.inr (by simp [Value.ownBlock])), by simp, ?_⟩
  · refine Chain.keep ?_ _ _ _ hc
    intro b o _ ho
    have := lt_of_some ho
    exact ⟨by omega, (Below.heap_alloc w1 _ b this).trans ho⟩
  · intro x hx
    rcases List.mem_append.1 hx with h | h
    · exact pre_ne n x h
    · exact ks_ne zs len x h

theorem R3_at {w wr : World} {M cap R : Nat} {xs : List Int} {i : Nat} {l : List Int} {k : Int} {p : Option Addr} (r : R3 w M cap R xs i l k p wr) : i < xs.length ∧ xs[i]?.getD 0 = k ∧ (l = [] ↔ k = 0) := by
  have h := r.rest
  have hi : i < xs.length := by
    rcases Nat.lt_or_ge i xs.length with h' | h'
    · exact h'
    · rw [List.drop_eq_nil_of_le h'] at h; simp at h
  refine ⟨hi, ?_, ?_⟩
  · have e : xs[i]? = (l ++ [0])[0]? := by rw [← h]; simp
    rw [e]
    cases l with
    | nil => have := r.chain.1; simp [this]
    | cons x l => have := r.chain.1; simp [this]
  · cases l with
    | nil => have := r.chain.1; simp [this]
    | cons x l => have := r.chain.1; have := r.ne x (by simp); simp; omega

theorem R3_keep {w wr w1 : World} {M cap R : Nat} {xs : List Int} {i : Nat} {l : List Int} {k : Int} {p : Option Addr} (r : R3 w M cap R xs i l k p wr) (hb : Below wr.heap.size wr w1) : R3 w M cap R xs i l k p w1 := by
  have hM := own_lt r.own
  have hR := lt_of_some r.r
  have hlt := r.lt
  have hlo := r.lo
  have hg : wr.grownBy w1 none := ⟨hb.os, hb.tape, hb.output, hb.size, fun i hi _ => hb.block i hi⟩
  exact ⟨(hb.block _ hR).trans r.r, Chain.keep (fun b o hP ho => ⟨hP, (hb.block b (lt_of_some ho)).trans ho⟩) _ _ _ r.chain, r.bel.trans (hb.mono (by omega)), r.lo, r.lt, r.own.kept hg (.inr (by simp [Value.ownBlock])), r.rest, r.ne⟩

theorem R3_step {w wr w1 : World} {M cap R : Nat} {xs : List Int} {i : Nat} {x : Int} {l : List Int} {k : Int} {p : Option Addr} {k' : Int} {p' : Option Addr} (r : R3 w M cap R xs i (x :: l) k p wr)
    (hc : Chain (· ≠ R) wr.heap l k' p') (hb : Below wr.heap.size wr w1) :
    R3 w M cap R xs (i + 1) l k' p' ((((w1.setCell ⟨R, 0, none⟩ (.int .u8 k')).setCell ⟨R, 1, none⟩ (.pointer p')).setCell ⟨R, 2, none⟩ (.slice none 0 0)).setCell ⟨R, 3, none⟩ (.slice none 0 0)) := by
  have r' := R3_keep r hb
  have hM := own_lt r.own
  have hR := lt_of_some r.r
  have hlt := r.lt
  have hlo := r.lo
  have hg : w1.grownBy ((((w1.setCell ⟨R, 0, none⟩ (.int .u8 k')).setCell ⟨R, 1, none⟩ (.pointer p')).setCell ⟨R, 2, none⟩ (.slice none 0 0)).setCell ⟨R, 3, none⟩ (.slice none 0 0)) (some R) :=
    ⟨rfl, rfl, rfl, by simp, fun i _ hi => heap_set4_other _ _ _ _ _ _ _ (by simpa using hi)⟩
  refine ⟨heap_set4 _ _ _ _ _ _ r'.r, ?_, below_set4 r'.bel _ (by omega) _ _ _ _, hlo, hlt, r'.own.kept hg (.inr (by simp [Value.ownBlock]; omega)), ?_, fun y hy => r.ne y (by simp [hy])⟩
  · refine Chain.keep ?_ _ _ _ hc
    intro b o hP ho
    exact ⟨hP, (heap_set4_other _ _ _ _ _ _ _ hP).trans ((hb.block b (lt_of_some ho)).trans ho)⟩
  · have := r.rest
    rw [← List.drop_drop, this]; simp
end Go.Proofs.Ybulkdweg.lawS6142CWhole

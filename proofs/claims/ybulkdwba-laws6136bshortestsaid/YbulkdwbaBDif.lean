/-
  FOR 'Rows.LawS6136BShortestSaid': the differ in memory; the two sides of a box.
-/
import Derived.Test.YbulkdwbaBPath
namespace Go.Proofs.Ybulkdwba.lawB
open Go.ChangeShapes Go.WideShapes Go.ChangeAt Go.RowKit Go.Deep Go.Maps
open lawC (rowI rowI_cell rowI_frozen rowI_set made_rowI info3)
set_option linter.unusedVariables false

def boxD (sa sb sca scb rv v4 v5 v6 v8 : Value) : Obj := .cells #[sa, sb, sca, scb, v4, v5, v6, rv, v8] 33
theorem boxD_cell {w : World} {g : Nat} {sa sb sca scb rv v4 v5 v6 v8 : Value} (h : w.heap[g]? = some (boxD sa sb sca scb rv v4 v5 v6 v8)) :
    w.cell? ⟨g, 0, none⟩ = some sa ∧ w.cell? ⟨g, 1, none⟩ = some sb ∧ w.cell? ⟨g, 2, none⟩ = some sca ∧ w.cell? ⟨g, 3, none⟩ = some scb ∧ w.cell? ⟨g, 7, none⟩ = some rv ∧ ∀ o, w.frozen? ⟨g, o, none⟩ = false := by
  unfold boxD at h
  have e : ∀ f : Nat, w.cell? ⟨g, f, none⟩ = #[sa, sb, sca, scb, v4, v5, v6, rv, v8][f]? := fun f => cell_of_row w g f _ 33 (0, 0) h
  exact ⟨e 0, e 1, e 2, e 3, e 7, fun o => frozen_of_row w g o _ 33 h⟩
theorem boxD_r {w : World} {g : Nat} {sa sb sca scb rv v4 v5 v6 v8 : Value} (h : w.heap[g]? = some (boxD sa sb sca scb rv v4 v5 v6 v8)) (v : Value) : (w.setCell ⟨g, 7, none⟩ v).heap[g]? = some (boxD sa sb sca scb v v4 v5 v6 v8) := by
  unfold boxD at h ⊢
  rw [heap_setCell_same w g 7 _ 33 _ h]; rfl
theorem boxD_ne {α : Type} {u : α → Value} {t : TypeId} {xs : List α} {h : World} {a g : Nat} {sa sb sca scb rv v4 v5 v6 v8 : Value} (hg : h.heap[g]? = some (boxD sa sb sca scb rv v4 v5 v6 v8)) (ha : h.heap[a]? = some (rowV u t xs)) (ht : t ≠ 33) : a ≠ g := fun e => by
  rw [← e, ha] at hg; simp [boxD, rowV] at hg; exact ht hg.2
abbrev sl (b n : Nat) : Value := .slice (some ⟨b, 0, none⟩) n n
/-- The differ: its box in D, the texts in A and B, the marks in CA and CB; all else as w0 has it. -/
structure Dif (w0 : World) (D A B CA CB na nb : Nat) (za zb : List Int) (v4 v5 v6 v8 : Value) (ca cb : List Bool) (h : World) : Prop where
  bx : ∃ rv, h.heap[D]? = some (boxD (sl A na) (sl B nb) (sl CA na) (sl CB nb) rv v4 v5 v6 v8) ∧ RowsOk w0.heap.size h rv
  ra : h.heap[A]? = some (rowI za)
  rb : h.heap[B]? = some (rowI zb)
  rca : h.heap[CA]? = some (rowB ca)
  rcb : h.heap[CB]? = some (rowB cb)
  la : ca.length = na
  lb : cb.length = nb
  kp : Keeps (fun k => k = D ∨ k = CA ∨ k = CB) w0 h
theorem RowsOk.keep {B : Nat} {w h : World} {rv : Value} (r : RowsOk B w rv) (hk : ∀ (R : Nat) ws, w.heap[R]? = some (rowU ws) → h.heap[R]? = some (rowU ws)) : RowsOk B h rv := by
  rcases r with r | ⟨R, len, ws, e, h1, h2, h3, h4, h5⟩
  · exact .inl r
  · exact .inr ⟨R, len, ws, e, h1, h2, h3, hk _ _ h4, h5⟩
theorem Dif.drewN {w0 : World} {D A B CA CB na nb : Nat} {za zb : List Int} {v4 v5 v6 v8 : Value} {ca cb : List Bool} {h : World} (s : Dif w0 D A B CA CB na nb za zb v4 v5 v6 v8 ca cb h) (k : Nat) : Dif w0 D A B CA CB na nb za zb v4 v5 v6 v8 ca cb (h.drewN k) :=
  ⟨s.bx, s.ra, s.rb, s.rca, s.rcb, s.la, s.lb, s.kp.drewN k⟩
theorem Keeps.trans' {S T : Nat → Prop} {a b c : World} (h : Keeps S a b) (k : Keeps T b c) (hT : ∀ t, t < a.heap.size → T t → S t) : Keeps S a c :=
  ⟨k.os.trans h.os, k.tape.trans h.tape, k.output.trans h.output, Nat.le_trans h.size k.size, fun t ht hs => (k.block t (Nat.lt_of_lt_of_le ht h.size) (fun e => hs (hT t ht e))).trans (h.block t ht hs)⟩

/-- What compareByBits leaves. -/
def CbbP (w0 : World) (D A B CA CB na nb : Nat) (za zb : List Int) (v4 v5 v6 v8 : Value) (ca cb : List Bool) (aLo aHi bLo bHi : Nat) (e : Ending) (h : World) : Prop :=
  e = .returned (.tuple #[]) ∧ ∃ ca' cb', Dif w0 D A B CA CB na nb za zb v4 v5 v6 v8 ca' cb' h ∧ (∀ t, (t < aLo ∨ aHi ≤ t) → ca'[t]? = ca[t]?) ∧ (∀ t, (t < bLo ∨ bHi ≤ t) → cb'[t]? = cb[t]?) ∧ Done (lin za aLo) (lin zb bLo) (aHi - aLo) (bHi - bLo) (mk ca' aLo) (mk cb' bLo)

/-- The shorter side and the longer: as given, or changed about. -/
def Swp (A B CA CB : Nat) (za zb : List Int) (ca cb : List Bool) (aLo aHi bLo bHi : Nat) (X Y CX CY xo yo n m : Nat) (zx zy : List Int) (bx by' : List Bool) : Prop :=
  (X = A ∧ Y = B ∧ CX = CA ∧ CY = CB ∧ xo = aLo ∧ yo = bLo ∧ n = aHi - aLo ∧ m = bHi - bLo ∧ zx = za ∧ zy = zb ∧ bx = ca ∧ by' = cb) ∨
  (X = B ∧ Y = A ∧ CX = CB ∧ CY = CA ∧ xo = bLo ∧ yo = aLo ∧ n = bHi - bLo ∧ m = aHi - aLo ∧ zx = zb ∧ zy = za ∧ bx = cb ∧ by' = ca)
structure SideF (h : World) (X Y CX CY xo yo n m : Nat) (zx zy : List Int) (bx by' : List Bool) : Prop where
  rx : h.heap[X]? = some (rowI zx)
  ry : h.heap[Y]? = some (rowI zy)
  cx : h.heap[CX]? = some (rowB bx)
  cy : h.heap[CY]? = some (rowB by')
  lx : bx.length = zx.length
  ly : by'.length = zy.length
  ne : CX ≠ CY
  hx : xo + n ≤ zx.length
  hy : yo + m ≤ zy.length
  hn0 : 0 < n
  hm0 : 0 < m
  bx4 : zx.length ≤ 4096
  by4 : zy.length ≤ 4096
  sx : ∀ z ∈ zx, Small z
  sy : ∀ z ∈ zy, Small z
  fx : ∀ k, k < n → mk bx xo k = false
  fy : ∀ k, k < m → mk by' yo k = false
theorem Swp.facts {w0 : World} {D A B CA CB na nb : Nat} {za zb : List Int} {v4 v5 v6 v8 : Value} {ca cb : List Bool} {h : World} {aLo aHi bLo bHi X Y CX CY xo yo n m : Nat} {zx zy : List Int} {bx by' : List Bool} (s : Swp A B CA CB za zb ca cb aLo aHi bLo bHi X Y CX CY xo yo n m zx zy bx by')
    (d : Dif w0 D A B CA CB na nb za zb v4 v5 v6 v8 ca cb h) (hna : za.length = na) (hnb : zb.length = nb) (hna4 : na ≤ 4096) (hnb4 : nb ≤ 4096) (hsa : ∀ z ∈ za, Small z) (hsb : ∀ z ∈ zb, Small z) (hCC : CA ≠ CB) (h1 : aLo < aHi) (h2 : aHi ≤ na) (h3 : bLo < bHi) (h4 : bHi ≤ nb)
    (fa : ∀ t, aLo ≤ t → t < aHi → ca[t]?.getD false = false) (fb : ∀ t, bLo ≤ t → t < bHi → cb[t]?.getD false = false) : SideF h X Y CX CY xo yo n m zx zy bx by' := by
  have la := d.la
  have lb := d.lb
  rcases s with ⟨rfl, rfl, rfl, rfl, rfl, rfl, rfl, rfl, rfl, rfl, rfl, rfl⟩ | ⟨rfl, rfl, rfl, rfl, rfl, rfl, rfl, rfl, rfl, rfl, rfl, rfl⟩
  · exact ⟨d.ra, d.rb, d.rca, d.rcb, by omega, by omega, hCC, by omega, by omega, by omega, by omega, by omega, by omega, hsa, hsb, fun k hk => fa _ (by omega) (by omega), fun k hk => fb _ (by omega) (by omega)⟩
  · exact ⟨d.rb, d.ra, d.rcb, d.rca, by omega, by omega, hCC.symm, by omega, by omega, by omega, by omega, by omega, by omega, hsb, hsa, fun k hk => fb _ (by omega) (by omega), fun k hk => fa _ (by omega) (by omega)⟩
theorem Swp.fin {w0 : World} {D A B CA CB na nb : Nat} {za zb : List Int} {v4 v5 v6 v8 : Value} {ca cb : List Bool} {aLo aHi bLo bHi X Y CX CY xo yo n m : Nat} {zx zy : List Int} {bx by' : List Bool} (s : Swp A B CA CB za zb ca cb aLo aHi bLo bHi X Y CX CY xo yo n m zx zy bx by')
    (h1 : aLo < aHi) (h3 : bLo < bHi) {hf : World} {bx1 by1 : List Bool} (hla : ca.length = na) (hlb : cb.length = nb)
    (hbx : ∃ rv, hf.heap[D]? = some (boxD (sl A na) (sl B nb) (sl CA na) (sl CB nb) rv v4 v5 v6 v8) ∧ RowsOk w0.heap.size hf rv) (rx : hf.heap[X]? = some (rowI zx)) (ry : hf.heap[Y]? = some (rowI zy)) (cx : hf.heap[CX]? = some (rowB bx1)) (cy : hf.heap[CY]? = some (rowB by1))
    (lx : bx1.length = bx.length) (ly : by1.length = by'.length) (ox : ∀ t, (t < xo ∨ xo + n ≤ t) → bx1[t]? = bx[t]?) (oy : ∀ t, (t < yo ∨ yo + m ≤ t) → by1[t]? = by'[t]?) (kp : Keeps (fun k => k = D ∨ k = CX ∨ k = CY) w0 hf) (dn : Done (lin zx xo) (lin zy yo) n m (mk bx1 xo) (mk by1 yo)) :
    CbbP w0 D A B CA CB na nb za zb v4 v5 v6 v8 ca cb aLo aHi bLo bHi (.returned (.tuple #[])) hf := by
  rcases s with ⟨rfl, rfl, rfl, rfl, rfl, rfl, rfl, rfl, rfl, rfl, rfl, rfl⟩ | ⟨rfl, rfl, rfl, rfl, rfl, rfl, rfl, rfl, rfl, rfl, rfl, rfl⟩
  · exact ⟨rfl, bx1, by1, ⟨hbx, rx, ry, cx, cy, by omega, by omega, kp⟩, fun t ht => ox t (by omega), fun t ht => oy t (by omega), dn⟩
  · exact ⟨rfl, by1, bx1, ⟨hbx, ry, rx, cy, cx, by omega, by omega, kp.mono (fun k _ h => by rcases h with h | h | h <;> simp [h])⟩, fun t ht => oy t (by omega), fun t ht => ox t (by omega), dn.sym⟩
end Go.Proofs.Ybulkdwba.lawB

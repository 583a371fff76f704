/-
  FOR 'Rows.LawS6139BWholeSaid': the input, and what zzs6139bbuild leaves in memory. No walk here.
-/
import Derived.Test.YbulkdwcqBMaps
namespace Go.Proofs.Ybulkdwcq.lawB
open Go.ChangeShapes Go.WideShapes Go.ChangeAt Go.RowKit Go.Maps Go.WideMaps Go.WideElems
set_option linter.unusedVariables false

/-- The argument: its strings, its flag, and for each of its eight slices the address, the capacity and the strings. -/
structure Arg where
  user : ByteArray
  wd : ByteArray
  hc : Bool
  sP : Option Addr
  sE : Option Addr
  sN : Option Addr
  sC : Option Addr
  sT : Option Addr
  sV : Option Addr
  sK : Option Addr
  sL : Option Addr
  cP : Nat
  cE : Nat
  cN : Nat
  cC : Nat
  cT : Nat
  cV : Nat
  cK : Nat
  cL : Nat
  P : List ByteArray
  E : List ByteArray
  N : List ByteArray
  C : List ByteArray
  T : List ByteArray
  V : List ByteArray
  K : List ByteArray
  L : List ByteArray

structure Arg.In (a : Arg) (w : World) : Prop where
  P : InS w a.sP a.cP a.P
  E : InS w a.sE a.cE a.E
  N : InS w a.sN a.cN a.N
  C : InS w a.sC a.cC a.C
  T : InS w a.sT a.cT a.T
  V : InS w a.sV a.cV a.V
  K : InS w a.sK a.cK a.K
  L : InS w a.sL a.cL a.L
theorem Arg.In.below {a : Arg} {w w' : World} (i : a.In w) (hb : Below w.heap.size w w') : a.In w' :=
  ⟨i.P.below hb, i.E.below hb, i.N.below hb, i.C.below hb, i.T.below hb, i.V.below hb, i.K.below hb, i.L.below hb⟩

structure Arg.Small (a : Arg) : Prop where
  P : a.P.length ≤ 1048576
  E : a.E.length ≤ 1048576
  N : a.N.length ≤ 1048576
  C : a.C.length ≤ 1048576
  T : a.T.length ≤ 1048576
  V : a.V.length ≤ 1048576
  K : a.K.length ≤ 1048576
  L : a.L.length ≤ 1048576

/-- The argument's box. -/
def boxA (a : Arg) (sK sL : Option Addr) : Obj := .cells #[.string a.user, .slice a.sP a.P.length a.cP, .slice a.sE a.E.length a.cE, .slice a.sN a.N.length a.cN, .slice a.sC a.C.length a.cC, .bool a.hc, .slice a.sT a.T.length a.cT, .slice a.sV a.V.length a.cV, .string a.wd, .slice sK a.K.length a.cK, .slice sL a.L.length a.cL] 24
theorem boxA_cell {w : World} {A : Nat} {a : Arg} {sK sL : Option Addr} (h : w.heap[A]? = some (boxA a sK sL)) :
    w.cell? ⟨A, 0, none⟩ = some (.string a.user) ∧ w.cell? ⟨A, 1, none⟩ = some (.slice a.sP a.P.length a.cP) ∧ w.cell? ⟨A, 2, none⟩ = some (.slice a.sE a.E.length a.cE) ∧ w.cell? ⟨A, 3, none⟩ = some (.slice a.sN a.N.length a.cN) ∧
    w.cell? ⟨A, 4, none⟩ = some (.slice a.sC a.C.length a.cC) ∧ w.cell? ⟨A, 5, none⟩ = some (.bool a.hc) ∧ w.cell? ⟨A, 6, none⟩ = some (.slice a.sT a.T.length a.cT) ∧ w.cell? ⟨A, 7, none⟩ = some (.slice a.sV a.V.length a.cV) ∧
    w.cell? ⟨A, 8, none⟩ = some (.string a.wd) ∧ w.cell? ⟨A, 9, none⟩ = some (.slice sK a.K.length a.cK) ∧ w.cell? ⟨A, 10, none⟩ = some (.slice sL a.L.length a.cL) := by
  unfold boxA at h
  have k : ∀ f : Nat, w.cell? ⟨A, f, none⟩ = #[Value.string a.user, .slice a.sP a.P.length a.cP, .slice a.sE a.E.length a.cE, .slice a.sN a.N.length a.cN, .slice a.sC a.C.length a.cC, .bool a.hc, .slice a.sT a.T.length a.cT, .slice a.sV a.V.length a.cV, .string a.wd, .slice sK a.K.length a.cK, .slice sL a.L.length a.cL][f]? := fun f => cell_of_row w A f _ 24 (0, 0) h
  exact ⟨k 0, k 1, k 2, k 3, k 4, k 5, k 6, k 7, k 8, k 9, k 10⟩

/-- A Healthcheck of the call's own. -/
def HcAt (h : World) (v : Value) (has isnil : Bool) (T : List ByteArray) : Prop :=
  (has = false ∧ v = .pointer none) ∨ (has = true ∧ ∃ G vT, v = .pointer (some ⟨G, 0, none⟩) ∧ h.heap[G]? = some (.cells #[vT, .pointer none, .pointer none, .pointer none, .pointer none, .pointer none] 41) ∧ StrsAt h.heap vT isnil T)

structure Vals where
  p : Value
  e : Value
  n : Value
  c : Value
  h : Value
  v : Value
  l : Value

/-- What a built RunConfig in block R leads to. -/
structure Parts (a : Arg) (x : Vals) (h : World) : Prop where
  p : SetAt h x.p a.sP.isNone a.P
  e : StrsAt h.heap x.e a.sE.isNone a.E
  n : StrsAt h.heap x.n a.sN.isNone a.N
  c : StrsAt h.heap x.c a.sC.isNone a.C
  v : SetAt h x.v a.sV.isNone a.V
  l : LblAt h x.l a.sK.isNone a.K a.L
  hc : HcAt h x.h a.hc a.sT.isNone a.T

/-- Blocks of other kinds than a RunConfig stay. -/
def Kept (h h' : World) : Prop := (∀ (b : Nat) es cl, h.heap[b]? = some (.map es cl) → h'.heap[b]? = some (.map es cl)) ∧ ∀ (g : Nat) (cur : Array Value) (t : TypeId), t ≠ 31 → h.heap[g]? = some (.cells cur t) → h'.heap[g]? = some (.cells cur t)
theorem lt_of_some {H : Array Obj} {b : Nat} {o : Obj} (hb : H[b]? = some o) : b < H.size := (Array.getElem?_eq_some_iff.1 hb).1
theorem Kept.of_below {h h' : World} (hb : Below h.heap.size h h') : Kept h h' := ⟨fun b es cl hh => (hb.block b (lt_of_some hh)).trans hh, fun g cur t _ hh => (hb.block g (lt_of_some hh)).trans hh⟩
theorem Kept.of_grown {h h' : World} {R : Nat} {cs : Array Value} (hr : h.heap[R]? = some (.cells cs 31)) (hg : h.grownBy h' (some R)) : Kept h h' := by
  refine ⟨fun b es cl hh => ?_, fun g cur t ht hh => ?_⟩
  · rw [hg.block b (lt_of_some hh) (fun e => by simp at e; rw [e, hr] at hh; simp at hh)]; exact hh
  · rw [hg.block g (lt_of_some hh) (fun e => by simp at e; rw [e, hr] at hh; simp at hh; exact ht hh.2.symm)]; exact hh
theorem StrsAt.kept {h h' : World} {v : Value} {isnil : Bool} {ss : List ByteArray} (s : StrsAt h.heap v isnil ss) (k : Kept h h') : StrsAt h'.heap v isnil ss := s.keep (fun g cur hh => k.2 g cur 9 (by decide) hh)
theorem HcAt.kept {h h' : World} {v : Value} {has isnil : Bool} {T : List ByteArray} (s : HcAt h v has isnil T) (k : Kept h h') : HcAt h' v has isnil T := by
  rcases s with s | ⟨e1, G, vT, e2, e3, e4⟩
  · exact .inl s
  · exact .inr ⟨e1, G, vT, e2, k.2 _ _ 41 (by decide) e3, e4.kept k⟩
theorem Parts.kept {a : Arg} {x : Vals} {h h' : World} (p : Parts a x h) (k : Kept h h') : Parts a x h' :=
  ⟨p.p.keep k.1, p.e.kept k, p.n.kept k, p.c.kept k, p.v.keep k.1, p.l.keep k.1, p.hc.kept k⟩

/-- A RunConfig in block R, built of the argument, its working directory d. -/
structure Built (a : Arg) (R : Nat) (d : ByteArray) (x : Vals) (h : World) : Prop where
  box : h.heap[R]? = some (boxR (.string a.user) x.p x.e x.n x.c x.h x.v (.string d) x.l)
  parts : Parts a x h
theorem Built.below {a : Arg} {R : Nat} {d : ByteArray} {x : Vals} {h h' : World} (b : Built a R d x h) (hb : Below h.heap.size h h') : Built a R d x h' :=
  ⟨(hb.block R (lt_of_some b.box)).trans b.box, b.parts.kept (Kept.of_below hb)⟩
end Go.Proofs.Ybulkdwcq.lawB

/-
  FOR 'Rows.LawS6139BWholeSaid': what the law's own tests read. No walk here.
-/
import Derived.Test.YbulkdwcqBBuild
namespace Go.Proofs.Ybulkdwcq.lawB
open Go.ChangeShapes Go.WideShapes Go.ChangeAt Go.RowKit Go.Maps Go.WideMaps Go.WideElems
set_option linter.unusedVariables false

/-- The shapes of what a built RunConfig holds. -/
theorem Parts.shapes {a : Arg} {x : Vals} {h : World} (p : Parts a x h) : ∃ mP oE kE oN kN oC kC ho mV mL,
    x = ⟨.map mP, .slice oE a.E.length kE, .slice oN a.N.length kN, .slice oC a.C.length kC, .pointer ho, .map mV, .map mL⟩ := by
  obtain ⟨xp, xe, xn, xc, xh, xv, xl⟩ := x
  obtain ⟨h1, h2, h3, h4, h5, h6, h7⟩ := p
  have e1 : ∃ m, xp = .map m := by rcases h1 with ⟨e, _⟩ | ⟨B, e, _⟩ <;> exact ⟨_, e⟩
  have e5 : ∃ m, xv = .map m := by rcases h5 with ⟨e, _⟩ | ⟨B, e, _⟩ <;> exact ⟨_, e⟩
  have e6 : ∃ m, xl = .map m := by rcases h6 with ⟨e, _⟩ | ⟨B, e, _⟩ <;> exact ⟨_, e⟩
  have e7 : ∃ m, xh = .pointer m := by rcases h7 with ⟨_, e⟩ | ⟨_, G, vT, e, _⟩ <;> exact ⟨_, e⟩
  obtain ⟨mP, rfl⟩ := e1
  obtain ⟨mV, rfl⟩ := e5
  obtain ⟨mL, rfl⟩ := e6
  obtain ⟨ho, rfl⟩ := e7
  obtain ⟨oE, kE, q2, _⟩ := h2
  obtain ⟨oN, kN, q3, _⟩ := h3
  obtain ⟨oC, kC, q4, _⟩ := h4
  simp only at q2 q3 q4
  subst q2 q3 q4
  exact ⟨mP, oE, kE, oN, kN, oC, kC, ho, mV, mL, rfl⟩

/-- What is known while the law's last tests go: both configurations, the argument's box, the old memory. -/
structure Fin (a : Arg) (w : World) (A R1 R2 : Nat) (d : ByteArray) (x1 x2 : Vals) (h : World) : Prop where
  b1 : Built a R1 d x1 h
  b2 : Built a R2 a.wd x2 h
  box : h.heap[A]? = some (boxA a a.sK a.sL)
  bel : Below w.heap.size w h
theorem Fin.below {a : Arg} {w : World} {A R1 R2 : Nat} {d : ByteArray} {x1 x2 : Vals} {h h' : World} (f : Fin a w A R1 R2 d x1 x2 h) (hb : Below h.heap.size h h') : Fin a w A R1 R2 d x1 x2 h' :=
  ⟨f.b1.below hb, f.b2.below hb, (hb.block _ (lt_of_some f.box)).trans f.box, f.bel.trans (hb.mono f.bel.size)⟩
theorem below_drewN (h : World) (q : Nat) : Below h.heap.size h (h.drewN q) := ⟨rfl, rfl, rfl, Nat.le_refl _, fun _ _ => rfl⟩
theorem Fin.drewN {a : Arg} {w : World} {A R1 R2 : Nat} {d : ByteArray} {x1 x2 : Vals} {h : World} (f : Fin a w A R1 R2 d x1 x2 h) (q : Nat) : Fin a w A R1 R2 d x1 x2 (h.drewN q) := f.below (below_drewN h q)

/-- The cells that the last tests read, and Fin. -/
def Seen (a : Arg) (w : World) (A R1 R2 : Nat) (d : ByteArray) (x1 x2 : Vals) (h : World) : Prop :=
  h.cell? ⟨R1, 1, none⟩ = some x1.p ∧ h.cell? ⟨R1, 2, none⟩ = some x1.e ∧ h.cell? ⟨R1, 3, none⟩ = some x1.n ∧ h.cell? ⟨R1, 4, none⟩ = some x1.c ∧ h.cell? ⟨R1, 6, none⟩ = some x1.v ∧ h.cell? ⟨R1, 8, none⟩ = some x1.l ∧
  h.cell? ⟨R2, 1, none⟩ = some x2.p ∧ h.cell? ⟨R2, 2, none⟩ = some x2.e ∧ h.cell? ⟨R2, 3, none⟩ = some x2.n ∧ h.cell? ⟨R2, 4, none⟩ = some x2.c ∧ h.cell? ⟨R2, 6, none⟩ = some x2.v ∧ h.cell? ⟨R2, 8, none⟩ = some x2.l ∧
  h.cell? ⟨A, 1, none⟩ = some (.slice a.sP a.P.length a.cP) ∧ h.cell? ⟨A, 7, none⟩ = some (.slice a.sV a.V.length a.cV) ∧ h.cell? ⟨A, 9, none⟩ = some (.slice a.sK a.K.length a.cK) ∧ Fin a w A R1 R2 d x1 x2 h
theorem Fin.seen {a : Arg} {w : World} {A R1 R2 : Nat} {d : ByteArray} {x1 x2 : Vals} {h : World} (f : Fin a w A R1 R2 d x1 x2 h) : Seen a w A R1 R2 d x1 x2 h := by
  obtain ⟨_, p1, e1, n1, c1, _, v1, _, l1, _⟩ := boxR_cell f.b1.box
  obtain ⟨_, p2, e2, n2, c2, _, v2, _, l2, _⟩ := boxR_cell f.b2.box
  obtain ⟨_, a1, _, _, _, _, _, a7, _, a9, _⟩ := boxA_cell f.box
  exact ⟨p1, e1, n1, c1, v1, l1, p2, e2, n2, c2, v2, l2, a1, a7, a9, f⟩
theorem Seen.fin {a : Arg} {w : World} {A R1 R2 : Nat} {d : ByteArray} {x1 x2 : Vals} {h : World} (s : Seen a w A R1 R2 d x1 x2 h) : Fin a w A R1 R2 d x1 x2 h := s.2.2.2.2.2.2.2.2.2.2.2.2.2.2.2
theorem Seen.below {a : Arg} {w : World} {A R1 R2 : Nat} {d : ByteArray} {x1 x2 : Vals} {h h' : World} (hb : Below h.heap.size h h') (s : Seen a w A R1 R2 d x1 x2 h) : Seen a w A R1 R2 d x1 x2 h' := (s.fin.below hb).seen
theorem Seen.drewN {a : Arg} {w : World} {A R1 R2 : Nat} {d : ByteArray} {x1 x2 : Vals} {h : World} {q : Nat} (s : Seen a w A R1 R2 d x1 x2 h) : Seen a w A R1 R2 d x1 x2 (h.drewN q) := (s.fin.drewN q).seen

/-- '!=' of a pointer and itself. -/
theorem neq28 (p : Option Addr) (w : World) : (binOp .neq 28 (.pointer p) (.pointer p)).run Yba.prog w = .ok (.bool false) w := by
  have hj : ∃ j, Yba.prog.info? 41 = some j := ⟨_, rfl⟩
  obtain ⟨j, hj⟩ := hj
  have h : ∀ d : Nat, (Op.equalIn (d + 1) 28 (.pointer p) (.pointer p)).run Yba.prog w = .ok true w := fun d => by
    cases p with
    | none => simp [Op.equalIn, run_underlying Yba.underlying28]
    | some a => simp [Op.equalIn, run_underlying Yba.underlying28, sizeOf, typeInfo, hj, sameAddr]
  simp only [binOp]
  simp [Op.equal, Op.maxDepth, h 9999]
end Go.Proofs.Ybulkdwcq.lawB

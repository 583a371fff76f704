/-
  FOR 'Rows.LawS6136BShortestSaid': rows of words; the index of lines: (*lineIndex).of: its contract.
-/
import Derived.Test.YbulkdwbaCIds
import Derived.Test.YbulkdwbaBPlain
import Derived.Laws.Externs
import Derived.Maps.OwnSet
import Derived.Maps.Own
import Derived.Maps.OwnOps
import Derived.WalkSpells
namespace Go.Proofs.Ybulkdwba.lawB
open Go.ChangeShapes Go.WideShapes Go.ChangeAt Go.RowKit Go.Deep Go.Maps
open lawC (rowI rowI_cell rowI_frozen rowI_set made_rowI info3)
set_option linter.unusedVariables false

theorem add64 (x y c : Int) (hx : 0 ≤ x) (hy : 0 ≤ y) (hc0 : 0 ≤ c) (hc : c ≤ 1) (w : World) : (callFunc 25 #[.int .u64 x, .int .u64 y, .int .u64 c]).run Yba.prog w =
    .ok (.value (.tuple #[.int .u64 ((x + y + c) % 18446744073709551616), .int .u64 ((x + y + c) / 18446744073709551616)])) w := by
  rw [run_callFunc_extern Yba.func25 (by kernel_rfl) (by kernel_rfl) (by kernel_rfl) (e := add64Entry) (by kernel_rfl), run_add64 x y c hx hy hc0 hc]
  rfl

theorem info58 : (Yba.prog.info? 58).map (fun i => (i.zero, i.size, i.bytes)) = some (some (.int .u64 0), 1, 8) := by kernel_rfl
theorem info21 : (Yba.prog.info? 21).map (fun i => (i.zero, i.size, i.bytes)) = some (some (.int .i32 0), 1, 4) := by kernel_rfl
theorem info4 : (Yba.prog.info? 4).map (fun i => (i.zero, i.size, i.bytes)) = some (some (.bool false), 1, 1) := by kernel_rfl

/-- A row of whatever values: the block's object. -/
def rowV {α : Type} (v : α → Value) (t : TypeId) (zs : List α) : Obj := .cells (zs.map v).toArray t
section
variable {α : Type} {v : α → Value} {t : TypeId} {w : World} {g : Nat} {zs : List α}
theorem rowV_cell (d : α) (h : w.heap[g]? = some (rowV v t zs)) (j : Nat) (hj : j < zs.length) : w.cell? ⟨g, j, none⟩ = some (v (zs[j]?.getD d)) := by
  unfold rowV at h
  rw [cell_of_row w g j _ t (0, 0) h]
  simp [hj]
theorem rowV_frozen (h : w.heap[g]? = some (rowV v t zs)) (j : Nat) : w.frozen? ⟨g, j, none⟩ = false := frozen_of_row w g j _ t h
theorem rowV_set (h : w.heap[g]? = some (rowV v t zs)) (j : Nat) (x : α) : (w.setCell ⟨g, j, none⟩ (v x)).heap[g]? = some (rowV v t (zs.set j x)) := by
  unfold rowV at h ⊢
  rw [heap_setCell_same w g j _ t _ h]
  congr 2
  apply Array.toList_inj.1
  simp
theorem made_rowV (v : α → Value) (t : TypeId) (n : Nat) (d : α) : Obj.cells (madeCells #[v d] n) t = rowV v t (List.replicate n d) := by
  unfold rowV
  congr 1
  apply Array.toList_inj.1
  rw [toList_madeCells_one]; simp
theorem rowV_ne {β : Type} {u : β → Value} {s : TypeId} {ys : List β} (h : t ≠ s) : rowV v t zs ≠ rowV u s ys := by
  unfold rowV; intro e; simp at e; exact h e.2
end
def u64v (x : Nat) : Value := .int .u64 x
def i32v (x : Nat) : Value := .int .i32 x
abbrev rowU (ws : List Nat) : Obj := rowV u64v 58 ws
abbrev rowD (ds : List Nat) : Obj := rowV i32v 21 ds
abbrev rowB (bs : List Bool) : Obj := rowV Value.bool 4 bs

/-! ### The index of the lines, plainly. -/
/-- q tells the index of each of the first j lines of f; N indexes are given. -/
structure Ix (f : Nat → Int) (j N : Nat) (q : Int → Option Nat) : Prop where
  some : ∀ id, (q id).isSome = true ↔ ∃ k, k < j ∧ f k = id
  lt : ∀ id a, q id = Option.some a → a < N
  inj : ∀ id id' a, q id = Option.some a → q id' = Option.some a → id = id'
  le : N ≤ j
theorem Ix.zero (f : Nat → Int) : Ix f 0 0 (fun _ => none) := ⟨fun id => by simp, fun id a h => by simp at h, fun id id' a h => by simp at h, Nat.le_refl _⟩
theorem Ix.old {f : Nat → Int} {j N : Nat} {q : Int → Option Nat} (x : Ix f j N q) {a : Nat} (h : q (f j) = Option.some a) : Ix f (j + 1) N q := by
  refine ⟨fun id => ?_, x.lt, x.inj, Nat.le_succ_of_le x.le⟩
  constructor
  · intro hs; obtain ⟨k, hk, e⟩ := (x.some id).1 hs; exact ⟨k, by omega, e⟩
  · rintro ⟨k, hk, e⟩
    by_cases hkj : k = j
    · subst hkj; rw [← e, h]; rfl
    · exact (x.some id).2 ⟨k, by omega, e⟩
/-- The index with one line more. -/
def grow1 (q : Int → Option Nat) (id0 : Int) (N : Nat) : Int → Option Nat := fun id => if id = id0 then some N else q id
theorem Ix.new {f : Nat → Int} {j N : Nat} {q : Int → Option Nat} (x : Ix f j N q) (h : q (f j) = none) : Ix f (j + 1) (N + 1) (grow1 q (f j) N) := by
  refine ⟨fun id => ?_, fun id a hq => ?_, fun id id' a h1 h2 => ?_, Nat.succ_le_succ x.le⟩
  · unfold grow1
    by_cases e : id = f j
    · rw [if_pos e]; exact ⟨fun _ => ⟨j, by omega, e.symm⟩, fun _ => rfl⟩
    · rw [if_neg e]
      constructor
      · intro hs; obtain ⟨k, hk, e⟩ := (x.some id).1 hs; exact ⟨k, by omega, e⟩
      · rintro ⟨k, hk, e'⟩
        by_cases hkj : k = j
        · subst hkj; exact absurd e'.symm e
        · exact (x.some id).2 ⟨k, by omega, e'⟩
  · unfold grow1 at hq
    split at hq
    · simp at hq; omega
    · have := x.lt id a hq; omega
  · unfold grow1 at h1 h2
    split at h1 <;> split at h2
    · subst_vars; rfl
    · have := x.lt _ _ h2; simp at h1; omega
    · have := x.lt _ _ h1; simp at h2; omega
    · exact x.inj _ _ _ h1 h2
/-- What 'of' answers. -/
def qv : Option Nat → Int
  | none => -1
  | some a => a

/-! ### The index in memory. -/
/-- The dense form: ds holds, for each number from lo on, its index plus one, or 0. -/
def DenseOk (lo : Int) (ds : List Nat) (q : Int → Option Nat) : Prop :=
  (∀ id a, q id = some a → lo ≤ id ∧ id < lo + ds.length) ∧ ∀ t, t < ds.length → ds[t]?.getD 0 = match q (lo + t) with | none => 0 | some a => a + 1
/-- The sparse form. -/
def SparseOk (D : DataW Unit) (q : Int → Option Nat) : Prop := ∀ id : Int, (Lit.int .i64 id).wf = true → Maps.has D (.int .i64 id) = (q id).isSome ∧ ∀ a, q id = some a → D.atKey (.int .i64 id) (.lit (.int .i32 0)) = .lit (.int .i32 (a : Int))
def IdxV (w : World) (lo : Int) (dv sv : Value) (q : Int → Option Nat) : Prop :=
  (∃ D ds, dv = .slice (some ⟨D, 0, none⟩) ds.length ds.length ∧ sv = .map none ∧ ds.length ≤ 1000000 ∧ w.heap[D]? = some (rowD ds) ∧ DenseOk lo ds q) ∨
  (∃ S k D, dv = .slice none 0 0 ∧ sv = .map (some S) ∧ w.ownsMap Yba.prog 3 (plainElem (H := Unit) Yba.prog 21) S k D ∧ SparseOk D q)

theorem law3 : Keyed Yba.prog 3 := int_keyed Yba.underlying3
theorem zero21 (w : World) : (zeroValue 21).run Yba.prog w = .ok (.int .i32 0) w := by kernel_rfl

theorem uwrap_lt {d : Int} {n : Nat} (h0 : 0 ≤ d) (h : d < n) (hn : n ≤ 1000000) : IntKind.u64.wrap (wrap64 d) = d := by rw [IntKind.wrap_u64]; unfold wrap64; omega
theorem i64wf {z : Int} (h1 : -4611686018427387904 ≤ z) (h2 : z ≤ 4611686018427387904) : (Lit.int .i64 z).wf = true := by
  simp [Lit.wf, IntKind.min, IntKind.max, IntKind.signed, IntKind.bits]; omega

/-- Numbers of lines: small. -/
def Small (z : Int) : Prop := -1000000000 ≤ z ∧ z ≤ 1000000000

theorem of_dense (B o : Nat) (lo id : Int) (q : Int → Option Nat) (D : Nat) (ds : List Nat) (w : World) (hlo : Small lo) (hid : Small id) (hl : ds.length ≤ 1000000)
    (c0 : w.cell? ⟨B, o, none⟩ = some (.int .i64 lo)) (c1 : w.cell? ⟨B, o + 1, none⟩ = some (.slice (some ⟨D, 0, none⟩) ds.length ds.length)) (c2 : w.cell? ⟨B, o + 2, none⟩ = some (.map none))
    (hD : w.heap[D]? = some (rowD ds)) (hok : DenseOk lo ds q) (hq : ∀ id a, q id = some a → a ≤ 4096) :
    Calls Yba.prog 22 #[.pointer (some ⟨B, o, none⟩), .int .i64 id] w fun e w' => e = .returned (.int .i64 (qv (q id))) ∧ ∃ n, w' = w.drewN n := by
  obtain ⟨l1, l2⟩ := hlo
  obtain ⟨i1, i2⟩ := hid
  have q1 := fun wx => run_eql_map_nil (P := Yba.prog) wx 60 3 21 none Yba.underlying60
  by_cases hin : lo ≤ id ∧ id < lo + ds.length
  · obtain ⟨t, rfl⟩ : ∃ t : Nat, id = lo + t := ⟨(id - lo).toNat, by omega⟩
    have ht : t < ds.length := by omega
    have hc := rowV_cell 0 hD t ht
    have hv := hok.2 t ht
    rw [hv] at hc
    have e1 : IntKind.u64.wrap (wrap64 (lo + ↑t - lo)) = t := by rw [IntKind.wrap_u64]; unfold wrap64; omega
    have e2 : IntKind.u64.wrap (ds.length : Int) = ds.length := by rw [IntKind.wrap_u64]; omega
    have e3 : IntKind.i64.wrap (lo + ↑t - lo) = (t : Int) := by rw [IntKind.wrap_i64]; omega
    have e4 : lo + ↑t - lo = (t : Int) := by omega
    have hh := hq (lo + ↑t)
    cases hqt : q (lo + ↑t) with
    | none =>
      rw [hqt] at hc
      have hc' : w.cell? ⟨D, t, none⟩ = some (.int .i32 0) := hc
      clear hc hv hok hD
      go_enter Yba.func22, Yba.ntmps22
      go_wp2
      go_quiet (fail)
      go_wp2
      go_quiet (fail)
      go_wp2
      go_ret
      exact ⟨rfl, by first | exact ⟨_, rfl⟩ | (simp only [World.drewN_drewN]; exact ⟨_, rfl⟩)⟩
    | some a =>
      rw [hqt] at hc
      have ha := hh a hqt
      have hc' : w.cell? ⟨D, t, none⟩ = some (.int .i32 ((a : Int) + 1)) := by simpa [i32v] using hc
      clear hc hv hok hD
      go_enter Yba.func22, Yba.ntmps22
      go_wp2
      go_quiet (fail)
      go_wp2
      go_quiet (fail)
      go_wp2
      go_ret
      exact ⟨by simp [qv], by first | exact ⟨_, rfl⟩ | (simp only [World.drewN_drewN]; exact ⟨_, rfl⟩)⟩
  · have hqn : q id = none := by
      cases hq' : q id with
      | none => rfl
      | some a => exact absurd (hok.1 id a hq') hin
    have e1 : decide (IntKind.u64.wrap (id - lo) < ds.length) = false := by rw [IntKind.wrap_u64, decide_eq_false_iff_not]; omega
    have e2 : IntKind.u64.wrap (ds.length : Int) = ds.length := by rw [IntKind.wrap_u64]; omega
    rw [hqn]
    clear hok hq hD hqn
    go_enter Yba.func22, Yba.ntmps22
    go_wp2
    go_quiet (fail)
    go_wp2
    go_ret
    exact ⟨rfl, by first | exact ⟨_, rfl⟩ | (simp only [World.drewN_drewN]; exact ⟨_, rfl⟩)⟩

theorem of_sparse (B o : Nat) (lo id : Int) (q : Int → Option Nat) (S k : Nat) (D : DataW Unit) (w : World) (hlo : Small lo) (hid : Small id)
    (c0 : w.cell? ⟨B, o, none⟩ = some (.int .i64 lo)) (c1 : w.cell? ⟨B, o + 1, none⟩ = some (.slice none 0 0)) (c2 : w.cell? ⟨B, o + 2, none⟩ = some (.map (some S)))
    (hD : w.ownsMap Yba.prog 3 (plainElem (H := Unit) Yba.prog 21) S k D) (hok : SparseOk D q) (hq : ∀ id a, q id = some a → a ≤ 4096) :
    Calls Yba.prog 22 #[.pointer (some ⟨B, o, none⟩), .int .i64 id] w fun e w' => e = .returned (.int .i64 (qv (q id))) ∧ ∃ n, w' = w.drewN n := by
  obtain ⟨l1, l2⟩ := hlo
  obtain ⟨i1, i2⟩ := hid
  have q1 := fun wx => run_eql_map_nil (P := Yba.prog) wx 60 3 21 (some S) Yba.underlying60
  have hw := i64wf (z := id) (by omega) (by omega)
  have hkey : keyOf Yba.prog 3 (.int .i64 id) = some (.int .i64 id) := keyOf_int_mk Yba.underlying3 hw
  obtain ⟨h1, h2⟩ := hok id hw
  have e1 : decide (IntKind.u64.wrap (id - lo) < 0) = false := by rw [IntKind.wrap_u64, decide_eq_false_iff_not]; omega
  have hlook : ∀ n : Nat, ∃ v ps, (Instr.lookup 60 (.map (some S)) (.int .i64 id) true).run Yba.prog (w.drewN n) = .ok (.tuple #[v, .bool (Maps.has D (.int .i64 id))]) (w.drewN n) ∧ plainElem (H := Unit) Yba.prog 21 v = some (D.atKey (.int .i64 id) (.lit (.int .i32 0)), ps) := by
    intro n
    have hD' : (w.drewN n).ownsMap Yba.prog 3 (plainElem (H := Unit) Yba.prog 21) S k D := hD
    exact hD'.look_ok law3 Yba.underlying60 (zero21 _) (plainElem_int Yba.underlying21 (by rfl)) hkey
  have hh := hq id
  cases hqt : q id with
  | none =>
    rw [hqt] at h1
    go_enter Yba.func22, Yba.ntmps22
    go_wp2
    go_quiet (fail)
    obtain ⟨v, ps, hrun, hv⟩ := hlook nq
    rw [h1] at hrun
    obtain ⟨x, rfl, _⟩ := plainElem_int_inv Yba.underlying21 hv
    go_wp2
    go_ret
    exact ⟨rfl, by first | exact ⟨_, rfl⟩ | (simp only [World.drewN_drewN]; exact ⟨_, rfl⟩)⟩
  | some a =>
    rw [hqt] at h1
    have ha := hh a hqt
    have h3 := h2 a hqt
    go_enter Yba.func22, Yba.ntmps22
    go_wp2
    go_quiet (fail)
    obtain ⟨v, ps, hrun, hv⟩ := hlook nq
    rw [h1] at hrun
    rw [h3] at hv
    obtain ⟨x, rfl, hx, _⟩ := plainElem_int_inv Yba.underlying21 hv
    obtain rfl : (a : Int) = x := by simpa using (Prod.mk.inj hx).1
    go_wp2
    go_ret
    exact ⟨by simp [qv], by first | exact ⟨_, rfl⟩ | (simp only [World.drewN_drewN]; exact ⟨_, rfl⟩)⟩

/-- (*lineIndex).of. -/
theorem of_any (B o : Nat) (lo id : Int) (dv sv : Value) (q : Int → Option Nat) (w : World) (hlo : Small lo) (hid : Small id)
    (c0 : w.cell? ⟨B, o, none⟩ = some (.int .i64 lo)) (c1 : w.cell? ⟨B, o + 1, none⟩ = some dv) (c2 : w.cell? ⟨B, o + 2, none⟩ = some sv)
    (hI : IdxV w lo dv sv q) (hq : ∀ id a, q id = some a → a ≤ 4096) :
    Calls Yba.prog 22 #[.pointer (some ⟨B, o, none⟩), .int .i64 id] w fun e w' => e = .returned (.int .i64 (qv (q id))) ∧ ∃ n, w' = w.drewN n := by
  rcases hI with ⟨D, ds, rfl, rfl, hl, hD, hok⟩ | ⟨S, k, D, rfl, rfl, hD, hok⟩
  · exact of_dense B o lo id q D ds w hlo hid hl c0 c1 c2 hD hok hq
  · exact of_sparse B o lo id q S k D w hlo hid c0 c1 c2 hD hok hq
end Go.Proofs.Ybulkdwba.lawB

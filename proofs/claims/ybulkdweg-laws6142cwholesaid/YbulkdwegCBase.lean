/-
  FOR 'Rows.LawS6142CWholeSaid': the callees' contracts: List, Set, Map, zzs6142cwrap, zzs6142ckind, collect, Kind, Elem.
-/
import Derived.Test.YbulkdwegRows
import Derived.WalkKit
import Derived.ProofKit
import Derived.Below
namespace Go.Proofs.Ybulkdweg.lawS6142CWhole
open Go.ChangeShapes Go.WideShapes Go.ChangeAt Go.RowKit
set_option linter.unusedVariables false

/-- The kind that a wrap byte stands for. -/
def kd (u : Int) : Int := if u % 3 = 0 then 5 else if u % 3 = 1 then 6 else 7

theorem list_any (c0 c1 c2 c3 : Value) (w : World) :
    Calls Yba.prog 11 #[.agg #[c0, c1, c2, c3]] w fun e w' => e = .returned (.agg #[.int .u8 5, .pointer (some ⟨w.heap.size, 0, none⟩), .slice none 0 0, .slice none 0 0]) ∧
      w' = (w.alloc (.cells #[c0, c1, c2, c3] 42)).alloc (.cells #[.int .u8 5, .pointer (some ⟨w.heap.size, 0, none⟩), .slice none 0 0, .slice none 0 0] 42) := by
  go_enter Yba.func11, Yba.ntmps11
  go_wp2
  exact bodyPost_ret (v := .agg #[.int .u8 5, .pointer (some ⟨w.heap.size, 0, none⟩), .slice none 0 0, .slice none 0 0]) (by simp [results, Yba.results11, go_sem]) rfl ⟨rfl, rfl⟩
theorem set_any (c0 c1 c2 c3 : Value) (w : World) :
    Calls Yba.prog 12 #[.agg #[c0, c1, c2, c3]] w fun e w' => e = .returned (.agg #[.int .u8 6, .pointer (some ⟨w.heap.size, 0, none⟩), .slice none 0 0, .slice none 0 0]) ∧
      w' = (w.alloc (.cells #[c0, c1, c2, c3] 42)).alloc (.cells #[.int .u8 6, .pointer (some ⟨w.heap.size, 0, none⟩), .slice none 0 0, .slice none 0 0] 42) := by
  go_enter Yba.func12, Yba.ntmps12
  go_wp2
  exact bodyPost_ret (v := .agg #[.int .u8 6, .pointer (some ⟨w.heap.size, 0, none⟩), .slice none 0 0, .slice none 0 0]) (by simp [results, Yba.results12, go_sem]) rfl ⟨rfl, rfl⟩
theorem map_any (c0 c1 c2 c3 : Value) (w : World) :
    Calls Yba.prog 13 #[.agg #[c0, c1, c2, c3]] w fun e w' => e = .returned (.agg #[.int .u8 7, .pointer (some ⟨w.heap.size, 0, none⟩), .slice none 0 0, .slice none 0 0]) ∧
      w' = (w.alloc (.cells #[c0, c1, c2, c3] 42)).alloc (.cells #[.int .u8 7, .pointer (some ⟨w.heap.size, 0, none⟩), .slice none 0 0, .slice none 0 0] 42) := by
  go_enter Yba.func13, Yba.ntmps13
  go_wp2
  exact bodyPost_ret (v := .agg #[.int .u8 7, .pointer (some ⟨w.heap.size, 0, none⟩), .slice none 0 0, .slice none 0 0]) (by simp [results, Yba.results13, go_sem]) rfl ⟨rfl, rfl⟩

theorem third4 (w : World) (o1 o2 o3 o4 : Obj) : ((((w.alloc o1).alloc o2).alloc o3).alloc o4).heap[w.heap.size + 1 + 1]? = some o3 := by
  show ((((w.heap.push o1).push o2).push o3).push o4)[w.heap.size + 1 + 1]? = _
  simp only [Array.getElem?_push, Array.size_push]
  rw [if_neg (by omega), if_pos trivial]
theorem below4 (w : World) (o1 o2 o3 o4 : Obj) : Below w.heap.size w ((((w.alloc o1).alloc o2).alloc o3).alloc o4) :=
  ((((Below.refl _ _).alloc (Nat.le_refl _) _).alloc (by simp) _).alloc (by simp; omega) _).alloc (by simp; omega) _
theorem below2 (w : World) (o1 o2 : Obj) : Below w.heap.size w ((w.alloc o1).alloc o2) :=
  ((Below.refl _ _).alloc (Nat.le_refl _) _).alloc (by simp) _

/-- What a wrapping call leaves: a 'Type' of kind K whose 'elem' leads to a new block that holds the 'Type' of before. -/
def Wraps (w : World) (k : Int) (p : Option Addr) (K : Int) (e : Ending) (w' : World) : Prop :=
  ∃ b, e = .returned (.agg #[.int .u8 K, .pointer (some ⟨b, 0, none⟩), .slice none 0 0, .slice none 0 0]) ∧
      w.heap.size ≤ b ∧ Below w.heap.size w w' ∧ w'.heap[b]? = some (.cells #[.int .u8 k, .pointer p, .slice none 0 0, .slice none 0 0] 42)

theorem wrap0 (k : Int) (p : Option Addr) (u : Int) (w : World) (h : u % 3 = 0) (h0 : 0 ≤ u) (h1 : u ≤ 255) :
    Calls Yba.prog 6 #[.agg #[.int .u8 k, .pointer p, .slice none 0 0, .slice none 0 0], .int .u8 u] w (Wraps w k p 5) := by
  go_enter Yba.func6, Yba.ntmps6
  go_wp2_with (go_at_call 11; refine (list_any _ _ _ _ _).mono ?_; rintro e w' ⟨rfl, rfl⟩)
  exact bodyPost_ret (v := .agg #[.int .u8 5, .pointer (some ⟨w.heap.size + 1 + 1, 0, none⟩), .slice none 0 0, .slice none 0 0]) (by simp [results, Yba.results6, go_sem]) rfl ⟨w.heap.size + 1 + 1, rfl, by omega, below4 _ _ _ _ _, third4 _ _ _ _ _⟩
theorem wrap1 (k : Int) (p : Option Addr) (u : Int) (w : World) (h : u % 3 = 1) (h0 : 0 ≤ u) (h1 : u ≤ 255) :
    Calls Yba.prog 6 #[.agg #[.int .u8 k, .pointer p, .slice none 0 0, .slice none 0 0], .int .u8 u] w (Wraps w k p 6) := by
  go_enter Yba.func6, Yba.ntmps6
  go_wp2_with (go_at_call 12; refine (set_any _ _ _ _ _).mono ?_; rintro e w' ⟨rfl, rfl⟩)
  exact bodyPost_ret (v := .agg #[.int .u8 6, .pointer (some ⟨w.heap.size + 1 + 1, 0, none⟩), .slice none 0 0, .slice none 0 0]) (by simp [results, Yba.results6, go_sem]) rfl ⟨w.heap.size + 1 + 1, rfl, by omega, below4 _ _ _ _ _, third4 _ _ _ _ _⟩
theorem wrap2 (k : Int) (p : Option Addr) (u : Int) (w : World) (h : u % 3 = 2) (h0 : 0 ≤ u) (h1 : u ≤ 255) :
    Calls Yba.prog 6 #[.agg #[.int .u8 k, .pointer p, .slice none 0 0, .slice none 0 0], .int .u8 u] w (Wraps w k p 7) := by
  go_enter Yba.func6, Yba.ntmps6
  go_wp2_with (go_at_call 13; refine (map_any _ _ _ _ _).mono ?_; rintro e w' ⟨rfl, rfl⟩)
  exact bodyPost_ret (v := .agg #[.int .u8 7, .pointer (some ⟨w.heap.size + 1 + 1, 0, none⟩), .slice none 0 0, .slice none 0 0]) (by simp [results, Yba.results6, go_sem]) rfl ⟨w.heap.size + 1 + 1, rfl, by omega, below4 _ _ _ _ _, third4 _ _ _ _ _⟩
theorem wrap_any (k : Int) (p : Option Addr) (u : Int) (w : World) (h0 : 0 ≤ u) (h1 : u ≤ 255) :
    Calls Yba.prog 6 #[.agg #[.int .u8 k, .pointer p, .slice none 0 0, .slice none 0 0], .int .u8 u] w (Wraps w k p (kd u)) := by
  unfold kd
  by_cases h : u % 3 = 0
  · rw [if_pos h]; exact wrap0 k p u w h h0 h1
  · rw [if_neg h]
    by_cases h' : u % 3 = 1
    · rw [if_pos h']; exact wrap1 k p u w h' h0 h1
    · rw [if_neg h']; exact wrap2 k p u w (by omega) h0 h1

theorem kind_any (u : Int) (w : World) (h0 : 0 ≤ u) (h1 : u ≤ 255) :
    Calls Yba.prog 7 #[.int .u8 u] w fun e w' => e = .returned (.int .u8 (kd u)) ∧ w' = w := by
  unfold kd
  by_cases h : u % 3 = 0
  · rw [if_pos h]; go_enter Yba.func7, Yba.ntmps7
    go_wp2
    go_ret
    exact ⟨rfl, rfl⟩
  · rw [if_neg h]
    by_cases h' : u % 3 = 1
    · rw [if_pos h']; go_enter Yba.func7, Yba.ntmps7
      go_wp2
      go_ret
      exact ⟨rfl, rfl⟩
    · rw [if_neg h']
      have h2 : u % 3 = 2 := by omega
      clear h h'
      go_enter Yba.func7, Yba.ntmps7
      go_wp2
      go_ret
      exact ⟨rfl, rfl⟩

theorem col2 (k : Int) (p : Option Addr) (w : World) : Calls Yba.prog 8 #[.int .u8 2, .agg #[.int .u8 k, .pointer p, .slice none 0 0, .slice none 0 0]] w (Wraps w k p 5) := by
  go_enter Yba.func8, Yba.ntmps8
  go_wp2_with (go_at_call 11; refine (list_any _ _ _ _ _).mono ?_; rintro e w' ⟨rfl, rfl⟩)
  exact bodyPost_ret (v := .agg #[.int .u8 5, .pointer (some ⟨w.heap.size + 1 + 1, 0, none⟩), .slice none 0 0, .slice none 0 0]) (by simp [results, Yba.results8, go_sem]) rfl ⟨w.heap.size + 1 + 1, rfl, by omega, below4 _ _ _ _ _, third4 _ _ _ _ _⟩
theorem col3 (k : Int) (p : Option Addr) (w : World) : Calls Yba.prog 8 #[.int .u8 3, .agg #[.int .u8 k, .pointer p, .slice none 0 0, .slice none 0 0]] w (Wraps w k p 6) := by
  go_enter Yba.func8, Yba.ntmps8
  go_wp2_with (go_at_call 12; refine (set_any _ _ _ _ _).mono ?_; rintro e w' ⟨rfl, rfl⟩)
  exact bodyPost_ret (v := .agg #[.int .u8 6, .pointer (some ⟨w.heap.size + 1 + 1, 0, none⟩), .slice none 0 0, .slice none 0 0]) (by simp [results, Yba.results8, go_sem]) rfl ⟨w.heap.size + 1 + 1, rfl, by omega, below4 _ _ _ _ _, third4 _ _ _ _ _⟩
theorem col4 (k : Int) (p : Option Addr) (w : World) : Calls Yba.prog 8 #[.int .u8 4, .agg #[.int .u8 k, .pointer p, .slice none 0 0, .slice none 0 0]] w (Wraps w k p 7) := by
  go_enter Yba.func8, Yba.ntmps8
  go_wp2_with (go_at_call 13; refine (map_any _ _ _ _ _).mono ?_; rintro e w' ⟨rfl, rfl⟩)
  exact bodyPost_ret (v := .agg #[.int .u8 7, .pointer (some ⟨w.heap.size + 1 + 1, 0, none⟩), .slice none 0 0, .slice none 0 0]) (by simp [results, Yba.results8, go_sem]) rfl ⟨w.heap.size + 1 + 1, rfl, by omega, below4 _ _ _ _ _, third4 _ _ _ _ _⟩
theorem colN (n : Int) (k : Int) (p : Option Addr) (w : World) (h2 : (n == 2) = false) (h3 : (n == 3) = false) (h4 : (n == 4) = false) :
    Calls Yba.prog 8 #[.int .u8 n, .agg #[.int .u8 k, .pointer p, .slice none 0 0, .slice none 0 0]] w fun e w' => e = .returned (.agg #[.int .u8 k, .pointer p, .slice none 0 0, .slice none 0 0]) ∧ Below w.heap.size w w' := by
  go_enter Yba.func8, Yba.ntmps8
  go_wp2
  exact bodyPost_ret (v := .agg #[.int .u8 k, .pointer p, .slice none 0 0, .slice none 0 0]) (by simp [results, Yba.results8, go_sem]) rfl ⟨rfl, below2 _ _ _⟩

theorem kindOf_any (k : Int) (p : Option Addr) (w : World) : Calls Yba.prog 9 #[.agg #[.int .u8 k, .pointer p, .slice none 0 0, .slice none 0 0]] w fun e w' => e = .returned (.int .u8 k) ∧ Below w.heap.size w w' := by
  go_enter Yba.func9, Yba.ntmps9
  go_wp2
  go_ret
  exact ⟨rfl, (Below.refl _ _).alloc (Nat.le_refl _) _⟩

/-- The four cells of a block that holds a 'Type'. -/
theorem cells4 {w : World} {b : Nat} {c0 c1 c2 c3 : Value} (h : w.heap[b]? = some (.cells #[c0, c1, c2, c3] 42)) :
    w.cell? ⟨b, 0, none⟩ = some c0 ∧ w.cell? ⟨b, 1, none⟩ = some c1 ∧ w.cell? ⟨b, 2, none⟩ = some c2 ∧ w.cell? ⟨b, 3, none⟩ = some c3 ∧
    w.frozen? ⟨b, 0, none⟩ = false ∧ w.frozen? ⟨b, 1, none⟩ = false ∧ w.frozen? ⟨b, 2, none⟩ = false ∧ w.frozen? ⟨b, 3, none⟩ = false := by
  simp [World.cell?, World.frozen?, h]

theorem elem_any (k k' : Int) (p' : Option Addr) (b : Nat) (w : World) (hb : w.heap[b]? = some (.cells #[.int .u8 k', .pointer p', .slice none 0 0, .slice none 0 0] 42)) :
    Calls Yba.prog 10 #[.agg #[.int .u8 k, .pointer (some ⟨b, 0, none⟩), .slice none 0 0, .slice none 0 0]] w fun e w' => e = .returned (.agg #[.int .u8 k', .pointer p', .slice none 0 0, .slice none 0 0]) ∧ Below w.heap.size w w' := by
  obtain ⟨h0, h1, h2, h3, _⟩ := cells4 hb
  have hlt : b < w.heap.size := by
    rcases Nat.lt_or_ge b w.heap.size with h | h
    · exact h
    · rw [Array.getElem?_eq_none h] at hb; cases hb
  clear hb
  go_enter Yba.func10, Yba.ntmps10
  go_wp2
  exact bodyPost_ret (v := .agg #[.int .u8 k', .pointer p', .slice none 0 0, .slice none 0 0]) (by simp [results, Yba.results10, go_sem]) rfl ⟨rfl, below2 _ _ _⟩
end Go.Proofs.Ybulkdweg.lawS6142CWhole

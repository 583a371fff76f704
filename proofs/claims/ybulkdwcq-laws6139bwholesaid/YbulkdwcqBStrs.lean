/-
  FOR 'Rows.LawS6139BWholeSaid': slices.Clone, slices.Equal, zzs6139bsliceEq at []string: their contracts.
-/
import Derived.Test.YbulkdwcqBDir
import Derived.Deep.QuietTactic
import Derived.BigQuiet
import Derived.WalkSpells
namespace Go.Proofs.Ybulkdwcq.lawB
open Go.ChangeShapes Go.WideShapes Go.ChangeAt Go.RowKit
set_option linter.unusedVariables false

theorem info9 : (Yba.prog.info? 9).map (fun i => (i.zero, i.size, i.bytes)) = some (some (.string ⟨#[]⟩), 1, 16) := by kernel_rfl

/-- A slice of strings that came in. -/
def InS (w : World) (sa : Option Addr) (cap : Nat) (ss : List ByteArray) : Prop :=
  (sa = none → ss = [] ∧ cap = 0) ∧ (0 < ss.length → ∃ b off, sa = some ⟨b, off, none⟩ ∧ b < w.heap.size ∧ ∀ j, j < ss.length → w.cell? ⟨b, off + j, none⟩ = some (.string (ss[j]?.getD ByteArray.empty))) ∧ ∀ s ∈ ss, s.size ≤ maxLen

theorem InS.below {w w' : World} {sa : Option Addr} {cap : Nat} {ss : List ByteArray} (h : InS w sa cap ss) (hb : Below w.heap.size w w') : InS w' sa cap ss := by
  obtain ⟨h1, h2, h3⟩ := h
  refine ⟨h1, fun hp => ?_, h3⟩
  obtain ⟨b, off, e, hlt, hc⟩ := h2 hp
  exact ⟨b, off, e, by have := hb.size; omega, fun j hj => by rw [hb.cell (by exact hlt)]; exact hc j hj⟩

/-- A slice of strings of the call's own. -/
def StrsAt (h : Array Obj) (v : Value) (isnil : Bool) (ss : List ByteArray) : Prop :=
  ∃ oa cap, v = .slice oa ss.length cap ∧ oa.isNone = isnil ∧ (0 < ss.length → ∃ g cur, oa = some ⟨g, 0, none⟩ ∧ h[g]? = some (.cells cur 9) ∧ ∀ j, j < ss.length → cur[j]? = some (.string (ss[j]?.getD ByteArray.empty)))

theorem StrsAt.keep {h h' : Array Obj} {v : Value} {isnil : Bool} {ss : List ByteArray} (s : StrsAt h v isnil ss) (k : ∀ (g : Nat) (cur : Array Value), h[g]? = some (.cells cur 9) → h'[g]? = some (.cells cur 9)) : StrsAt h' v isnil ss := by
  obtain ⟨oa, cap, e1, e2, e3⟩ := s
  refine ⟨oa, cap, e1, e2, fun hp => ?_⟩
  obtain ⟨g, cur, f1, f2, f3⟩ := e3 hp
  exact ⟨g, cur, f1, k g cur f2, f3⟩

theorem clone_nil (w : World) : Calls Yba.prog 14 #[.slice none 0 0] w fun e w' => e = .returned (.slice none 0 0) ∧ w' = w := by
  have hnil := fun wx => Lib.run_eql_slice_nil (P := Yba.prog) wx 22 9 none 0 0 0 0 Yba.underlying22
  go_enter Yba.func14, Yba.ntmps14
  go_wp2
  go_ret
  exact ⟨rfl, rfl⟩

theorem strs_of_own {w : World} {base : Nat} {v : Value} {ss : List ByteArray} {n : Nat} {xs : List Value} (hn : n = ss.length) (hx : xs = ss.map Value.string) (h : w.ownsRow base 9 1 v n xs) (hv : v ≠ .slice none 0 0) : StrsAt w.heap v false ss := by
  subst hn hx
  rcases h.2 with ⟨h1, _⟩ | ⟨g, cap, cur, rfl, _, hg, _, _, _, ht⟩
  · exact absurd h1 hv
  · refine ⟨some ⟨g, 0, none⟩, cap, rfl, rfl, fun _ => ⟨g, cur, rfl, hg, fun j hj => ?_⟩⟩
    have e : (cur.toList.take (ss.length * 1))[j]? = (ss.map Value.string)[j]? := by rw [ht]
    rw [List.getElem?_take, if_pos (by omega)] at e
    simp [hj] at e ⊢
    exact e

set_option maxHeartbeats 400000 in
theorem clone_some (x : Addr) (cap : Nat) (ss : List ByteArray) (w : World) (hl : ss.length ≤ 1048576) (h : InS w (some x) cap ss) :
    Calls Yba.prog 14 #[.slice (some x) ss.length cap] w fun e w' => ∃ v, e = .returned v ∧ StrsAt w'.heap v false ss ∧ Below w.heap.size w w' := by
  obtain ⟨_, h2, _⟩ := h
  have hnil := fun wx => Lib.run_eql_slice_nil (P := Yba.prog) wx 22 9 (some x) ss.length cap 0 0 Yba.underlying22
  obtain ⟨i0, hi, hz0, hz1, hz2⟩ := info_parts info9
  have hnews : ∀ j u, (ss.map Value.string)[j]? = some u → (w.alloc (.cells #[] 9)).cell? (x.add j) = some u := by
    intro j u hj
    have hjl : j < ss.length := by have := (List.getElem?_eq_some_iff.1 hj).1; simpa using this
    obtain ⟨b, off, ex, hlt, hc⟩ := h2 (by omega)
    obtain rfl : x = ⟨b, off, none⟩ := by simpa using ex
    have hcj := hc j hjl
    rw [add_plain, (((Below.refl w.heap.size w).alloc (Nat.le_refl _) (.cells #[] 9)).cell (p := ⟨b, off + j, none⟩) hlt), hcj]
    simp [hjl] at hj ⊢
    exact hj
  go_enter Yba.func14, Yba.ntmps14
  go_wp2_with (at_builtin; refine wpList_append_own _ rfl _ _ 22 rfl w.heap.size 9 i0 (.string ⟨#[]⟩) 1 16 Yba.underlying22 hi hz0 hz1 hz2 rfl (by decide) (.slice (some ⟨w.heap.size, 0, none⟩) 0 0) 0 [] rfl (World.ownsRow_lit (base := w.heap.size) (e := 9) (size := 1) w #[] 0 (Nat.le_refl _) (by unfold maxLen; omega) rfl) x ss.length cap (ss.map Value.string) rfl (by simp) hnews (by intro u hu; obtain ⟨s, _, rfl⟩ := List.mem_map.1 hu; rfl) (by unfold maxLen; omega) (by omega) (by simp) ?_; intro v' w1 hown hg hnn)
  go_ret
  refine ⟨v', rfl, strs_of_own (by omega) (by simp) hown (fun e => by have := (hnn.1 e).1; simp at this), ?_⟩
  exact ((Below.refl _ _).alloc (Nat.le_refl _) _).grown hg (by simp) (fun k hk => by simp [Value.ownBlock] at hk; omega)

/-- What slices.Clone leaves. -/
theorem clone_any (sa : Option Addr) (cap : Nat) (ss : List ByteArray) (w : World) (hl : ss.length ≤ 1048576) (h : InS w sa cap ss) :
    Calls Yba.prog 14 #[.slice sa ss.length cap] w fun e w' => ∃ v, e = .returned v ∧ StrsAt w'.heap v sa.isNone ss ∧ Below w.heap.size w w' := by
  cases sa with
  | none =>
    obtain ⟨rfl, rfl⟩ := h.1 rfl
    refine (clone_nil w).mono ?_
    rintro e w' ⟨rfl, rfl⟩
    exact ⟨_, rfl, ⟨none, 0, rfl, rfl, fun hp => by simp at hp⟩, Below.refl _ _⟩
  | some x => exact clone_some x cap ss w hl h

/-- Two slices that read alike are told equal. -/
theorem equal_any (v1 v2 : Value) (n1 n2 : Bool) (ss : List ByteArray) (w : World) (hl : ss.length ≤ 1048576) (h1 : StrsAt w.heap v1 n1 ss) (h2 : StrsAt w.heap v2 n2 ss) :
    Calls Yba.prog 16 #[v1, v2] w fun e w' => e = .returned (.bool true) ∧ ∃ q, w' = w.drewN q := by
  obtain ⟨o1, c1, rfl, _, k1⟩ := h1
  obtain ⟨o2, c2, rfl, _, k2⟩ := h2
  go_enter Yba.func16, Yba.ntmps16
  go_wp2
  go_loopw [13] (fun i wr => ∃ j : Nat, j ≤ ss.length ∧ i = .int .i64 j ∧ ∃ q, wr = w.drewN q) (fun i _ => ss.length - (intOf i).toNat)
  case atStart => exact ⟨0, Nat.zero_le _, rfl, 0, rfl⟩
  case round =>
    obtain ⟨j, hj, rfl, q, rfl⟩ := hrel
    by_cases hjl : j < ss.length
    · obtain ⟨g1, cu1, rfl, e1, f1⟩ := k1 (by omega)
      obtain ⟨g2, cu2, rfl, e2, f2⟩ := k2 (by omega)
      have h1 : w.cell? ⟨g1, j, none⟩ = some (.string (ss[j]?.getD ByteArray.empty)) := by rw [cell_of_row w g1 j _ 9 (0, 0) e1]; exact f1 j hjl
      have h2 : w.cell? ⟨g2, j, none⟩ = some (.string (ss[j]?.getD ByteArray.empty)) := by rw [cell_of_row w g2 j _ 9 (0, 0) e2]; exact f2 j hjl
      obtain ⟨s, hs⟩ : ∃ s, s = ss[j]?.getD ByteArray.empty := ⟨_, rfl⟩
      rw [← hs] at h1 h2
      clear hs
      go_wp2
      go_quiet (fail)
      go_wp2
      go_roundw
      case rel => exact ⟨j + 1, by omega, by go_num, _, by first | rfl | exact World.drewN_drewN _ _ _⟩
      case measure => simp [intOf]; omega
    · obtain rfl : j = ss.length := by omega
      go_wp2
      go_ret
      exact ⟨rfl, _, rfl⟩

theorem sliceEq_any (v1 v2 : Value) (n1 : Bool) (ss : List ByteArray) (w : World) (hl : ss.length ≤ 1048576) (h1 : StrsAt w.heap v1 n1 ss) (h2 : StrsAt w.heap v2 n1 ss) :
    Calls Yba.prog 7 #[v1, v2] w fun e w' => e = .returned (.bool true) ∧ ∃ q, w' = w.drewN q := by
  have hq := equal_any v1 v2 n1 n1 ss w hl h1 h2
  obtain ⟨o1, c1, rfl, r1, k1⟩ := h1
  obtain ⟨o2, c2, rfl, r2, k2⟩ := h2
  have hn1 := fun wx => Lib.run_eql_slice_nil (P := Yba.prog) wx 22 9 o1 ss.length c1 0 0 Yba.underlying22
  have hn2 := fun wx => Lib.run_eql_slice_nil (P := Yba.prog) wx 22 9 o2 ss.length c2 0 0 Yba.underlying22
  rw [r1] at hn1
  rw [r2] at hn2
  clear k1 k2 r1 r2
  go_enter Yba.func7, Yba.ntmps7
  go_wp2_with (go_at_call 16; refine hq.mono ?_; rintro e w' ⟨rfl, q, rfl⟩)
  go_ret
  exact ⟨rfl, _, rfl⟩
end Go.Proofs.Ybulkdwcq.lawB

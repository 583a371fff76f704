/-
  FOR 'Rows.LawS6139BWholeSaid': zzs6139bset, zzs6139bsetEq, zzs6139blabelsEq: their contracts.
-/
import Derived.Test.YbulkdwcqBStrs
import Derived.Maps.OwnSet
import Derived.Maps.Own
import Derived.Maps.OwnOps
import Derived.Maps.StringElems
namespace Go.Proofs.Ybulkdwcq.lawB
open Go.ChangeShapes Go.WideShapes Go.ChangeAt Go.RowKit Go.Maps Go.WideMaps Go.WideElems
set_option linter.unusedVariables false

theorem law9 : Keyed Yba.prog 9 := string_keyed Yba.underlying9
theorem zero50 (w : World) : (zeroValue 50).run Yba.prog w = .ok (.agg #[]) w := by kernel_rfl
theorem zero9 (w : World) : (zeroValue 9).run Yba.prog w = .ok (.string ⟨#[]⟩) w := by kernel_rfl

/-- What a key reads as. -/
def litS (s : ByteArray) : Lit := .string s.data.toList
theorem key9 {s : ByteArray} (h : s.size ≤ maxLen) : keyOf Yba.prog 9 (.string s) = some (litS s) := keyOf_string_mk Yba.underlying9 h
theorem keys_ok (ss : List ByteArray) : ∀ x ∈ ss.map litS, WideAt.IsKeyLit x := by
  intro x hx
  obtain ⟨s, _, rfl⟩ := List.mem_map.1 hx
  trivial

/-- The set of the strings of a list, as a datum. -/
def DS (ss : List ByteArray) : DataW Unit := setOf (.agg []) (ss.map litS)
theorem DS_snoc (ss : List ByteArray) (j : Nat) (h : j < ss.length) : DS (ss.take (j + 1)) = (DS (ss.take j)).put (litS (ss[j]?.getD ByteArray.empty)) (.agg []) := by
  unfold DS
  rw [List.take_succ_eq_append_getElem h, List.map_append]
  show setOf _ (_ ++ [litS ss[j]]) = _
  rw [setOf_snoc]
  simp [h]
theorem same_self (s : ByteArray) : (litS s).sameKey (litS s) = true := by unfold litS; simp [Lit.sameKey]
theorem DS_has (ss : List ByteArray) (s : ByteArray) (h : s ∈ ss) : Maps.has (DS ss) (litS s) = true := by
  unfold DS
  rw [has_setOf _ _ _ (keys_ok ss), List.any_eq_true]
  exact ⟨litS s, List.mem_map.2 ⟨s, h, rfl⟩, same_self s⟩

/-- A set of the call's own. -/
def SetAt (h : World) (v : Value) (isnil : Bool) (ss : List ByteArray) : Prop :=
  (v = .map none ∧ isnil = true) ∨ ∃ B, v = .map (some B) ∧ isnil = false ∧ h.ownsMap Yba.prog 9 (unitElem (H := Unit)) B ss.length (DS ss)
theorem own_keep {h h' : World} {R : Value → Option (DataW Unit × List MemPlace)} {B n : Nat} {D : DataW Unit} (o : h.ownsMap Yba.prog 9 R B n D) (k : ∀ (b : Nat) es cl, h.heap[b]? = some (.map es cl) → h'.heap[b]? = some (.map es cl)) : h'.ownsMap Yba.prog 9 R B n D := by
  obtain ⟨es, cl, h1, h2⟩ := o
  exact ⟨es, cl, k _ _ _ h1, h2⟩
theorem SetAt.keep {h h' : World} {v : Value} {isnil : Bool} {ss : List ByteArray} (s : SetAt h v isnil ss) (k : ∀ (b : Nat) es cl, h.heap[b]? = some (.map es cl) → h'.heap[b]? = some (.map es cl)) : SetAt h' v isnil ss := by
  rcases s with s | ⟨B, e1, e2, o⟩
  · exact .inl s
  · exact .inr ⟨B, e1, e2, own_keep o k⟩

theorem set_nil (w : World) : Calls Yba.prog 13 #[.slice none 0 0] w fun e w' => e = .returned (.map none) ∧ w' = w := by
  have hnil := fun wx => Lib.run_eql_slice_nil (P := Yba.prog) wx 22 9 none 0 0 0 0 Yba.underlying22
  go_enter Yba.func13, Yba.ntmps13
  go_wp2
  go_ret
  exact ⟨rfl, rfl⟩

theorem mem_at {ss : List ByteArray} {j : Nat} (h : j < ss.length) : ss[j]?.getD ByteArray.empty ∈ ss := by simp [h]

set_option maxHeartbeats 400000 in
theorem set_some (x : Addr) (cap : Nat) (ss : List ByteArray) (w : World) (hl : ss.length ≤ 1048576) (h : InS w (some x) cap ss) :
    Calls Yba.prog 13 #[.slice (some x) ss.length cap] w fun e w' => e = .returned (.map (some w.heap.size)) ∧ w'.ownsMap Yba.prog 9 (unitElem (H := Unit)) w.heap.size ss.length (DS ss) ∧ Below w.heap.size w w' := by
  obtain ⟨_, h2, h3⟩ := h
  have hnil := fun wx => Lib.run_eql_slice_nil (P := Yba.prog) wx 22 9 (some x) ss.length cap 0 0 Yba.underlying22
  have hmm := @run_makeMap Yba.prog
  go_enter Yba.func13, Yba.ntmps13
  go_wp2
  go_loopw [11] (fun i wr => ∃ j : Nat, j ≤ ss.length ∧ i = .int .i64 j ∧ wr.ownsMap Yba.prog 9 (unitElem (H := Unit)) w.heap.size j (DS (ss.take j)) ∧ Below w.heap.size w wr) (fun i _ => ss.length - (intOf i).toNat)
  case atStart => exact ⟨0, Nat.zero_le _, rfl, World.ownsMap_made _ _ _ _, (Below.refl _ _).alloc (Nat.le_refl _) _⟩
  case round =>
    obtain ⟨j, hj, rfl, hown, hbel⟩ := hrel
    by_cases hjl : j < ss.length
    · obtain ⟨b, off, ex, hlt, hc⟩ := h2 (by omega)
      obtain rfl : x = ⟨b, off, none⟩ := by simpa using ex
      have hcj : wr.cell? ⟨b, off + j, none⟩ = some (.string (ss[j]?.getD ByteArray.empty)) := by rw [hbel.cell (by exact hlt)]; exact hc j hjl
      have hst := DS_snoc ss j hjl
      have hsz := h3 _ (mem_at hjl)
      obtain ⟨s, hs⟩ : ∃ s, s = ss[j]?.getD ByteArray.empty := ⟨_, rfl⟩
      rw [← hs] at hcj hst hsz
      have HST : Hid (DS (ss.take (j + 1)) = (DS (ss.take j)).put (litS s) (.agg [])) := hst
      clear hs hst hnil hmm ex
      go_wp2_with (at_mapUpdate; refine wpList_mapUpdate_own _ rfl _ _ _ 27 rfl 9 50 law9 Yba.underlying27 _ w.heap.size j _ rfl hown (by unfold maxLen; omega) _ _ _ rfl rfl (key9 hsz) _ [] unitElem_mk ?_; intro w1 hown1 hg1)
      go_roundw
      case rel => exact ⟨j + 1, by omega, by go_num, by rw [HST.out]; exact hown1, hbel.grown hg1 hbel.size (fun k hk => by cases hk; exact Nat.le_refl _)⟩
      case measure => simp [intOf]; omega
    · obtain rfl : j = ss.length := by omega
      go_wp2
      go_ret
      exact ⟨rfl, by rw [List.take_of_length_le (Nat.le_refl _)] at hown; exact hown, hbel⟩

theorem set_any (sa : Option Addr) (cap : Nat) (ss : List ByteArray) (w : World) (hl : ss.length ≤ 1048576) (h : InS w sa cap ss) :
    Calls Yba.prog 13 #[.slice sa ss.length cap] w fun e w' => ∃ v, e = .returned v ∧ SetAt w' v sa.isNone ss ∧ Below w.heap.size w w' := by
  cases sa with
  | none =>
    obtain ⟨rfl, rfl⟩ := h.1 rfl
    refine (set_nil w).mono ?_
    rintro e w' ⟨rfl, rfl⟩
    exact ⟨_, rfl, .inl ⟨rfl, rfl⟩, Below.refl _ _⟩
  | some x =>
    refine (set_some x cap ss w hl h).mono ?_
    rintro e w' ⟨rfl, ho, hb⟩
    exact ⟨_, rfl, .inr ⟨_, rfl, rfl, ho⟩, hb⟩

set_option maxHeartbeats 400000 in
theorem setEq_some (B1 B2 : Nat) (x : Addr) (cap : Nat) (ss : List ByteArray) (w : World) (hl : ss.length ≤ 1048576) (h : InS w (some x) cap ss)
    (o1 : w.ownsMap Yba.prog 9 (unitElem (H := Unit)) B1 ss.length (DS ss)) (o2 : w.ownsMap Yba.prog 9 (unitElem (H := Unit)) B2 ss.length (DS ss)) :
    Calls Yba.prog 8 #[.map (some B1), .map (some B2), .slice (some x) ss.length cap] w fun e w' => e = .returned (.bool true) ∧ Below w.heap.size w w' := by
  obtain ⟨_, h2, h3⟩ := h
  have q1 := fun wx => run_eql_map_nil (P := Yba.prog) wx 27 9 50 (some B1) Yba.underlying27
  have q2 := fun wx => run_eql_map_nil (P := Yba.prog) wx 27 9 50 (some B2) Yba.underlying27
  have l1 := o1.len Yba.underlying27
  have l2 := o2.len Yba.underlying27
  go_enter Yba.func8, Yba.ntmps8
  go_wp2
  go_loopw [25] (fun i wr => ∃ j : Nat, j ≤ ss.length ∧ i = .int .i64 j ∧ Below w.heap.size w wr) (fun i _ => ss.length - (intOf i).toNat)
  case atStart => exact ⟨0, Nat.zero_le _, rfl, Below.refl _ _⟩
  case round =>
    obtain ⟨j, hj, rfl, hbel⟩ := hrel
    by_cases hjl : j < ss.length
    · obtain ⟨b, off, ex, hlt, hc⟩ := h2 (by omega)
      obtain rfl : x = ⟨b, off, none⟩ := by simpa using ex
      have hcj : wr.cell? ⟨b, off + j, none⟩ = some (.string (ss[j]?.getD ByteArray.empty)) := by rw [hbel.cell (by exact hlt)]; exact hc j hjl
      have hsz := h3 _ (mem_at hjl)
      have hhas := DS_has ss _ (mem_at hjl)
      obtain ⟨s, hs⟩ : ∃ s, s = ss[j]?.getD ByteArray.empty := ⟨_, rfl⟩
      rw [← hs] at hcj hsz hhas
      have o1r : wr.ownsMap Yba.prog 9 (unitElem (H := Unit)) B1 ss.length (DS ss) := own_keep o1 (fun b es cl hb => (hbel.block b (Array.getElem?_eq_some_iff.1 hb).1).trans hb)
      obtain ⟨v, ps, hrun, hv⟩ := o1r.look_ok law9 Yba.underlying27 (zero50 _) unitElem_mk (key9 hsz)
      obtain ⟨rfl, _⟩ := unitElem_inv hv
      rw [hhas] at hrun
      clear hs ex hv hhas q1 q2 l1 l2
      go_wp2
      go_roundw
      case rel => exact ⟨j + 1, by omega, by go_num, hbel.alloc hbel.size _⟩
      case measure => simp [intOf]; omega
    · obtain rfl : j = ss.length := by omega
      go_wp2
      go_ret
      exact ⟨rfl, hbel⟩
theorem setEq_nil (w : World) : Calls Yba.prog 8 #[.map none, .map none, .slice none 0 0] w fun e w' => e = .returned (.bool true) ∧ Below w.heap.size w w' := by
  have q1 := fun wx => run_eql_map_nil (P := Yba.prog) wx 27 9 50 none Yba.underlying27
  have l1 := fun wx ty => Maps.len_nil (P := Yba.prog) (w := wx) Yba.underlying27 ty
  go_enter Yba.func8, Yba.ntmps8
  go_wp2
  refine wp_loop_rounds 1 ?_
  rw [rounds_succ]
  go_wp2
  go_ret
  exact ⟨rfl, Below.refl _ _⟩
theorem setEq_any (v1 v2 : Value) (sa : Option Addr) (cap : Nat) (ss : List ByteArray) (w : World) (hl : ss.length ≤ 1048576) (h : InS w sa cap ss) (s1 : SetAt w v1 sa.isNone ss) (s2 : SetAt w v2 sa.isNone ss) :
    Calls Yba.prog 8 #[v1, v2, .slice sa ss.length cap] w fun e w' => e = .returned (.bool true) ∧ Below w.heap.size w w' := by
  cases sa with
  | none =>
    obtain ⟨rfl, rfl⟩ := h.1 rfl
    rcases s1 with ⟨rfl, _⟩ | ⟨_, _, e, _⟩
    · rcases s2 with ⟨rfl, _⟩ | ⟨_, _, e, _⟩
      · exact setEq_nil w
      · simp at e
    · simp at e
  | some x =>
    rcases s1 with ⟨_, e⟩ | ⟨B1, rfl, _, o1⟩
    · simp at e
    · rcases s2 with ⟨_, e⟩ | ⟨B2, rfl, _, o2⟩
      · simp at e
      · exact setEq_some B1 B2 x cap ss w hl h o1 o2

/-- The value that a label gets. -/
def lv (vs : List ByteArray) (i : Nat) : ByteArray := vs[i]?.getD ByteArray.empty
/-- The labels behind the first j keys, as a datum. -/
def DL (ks vs : List ByteArray) : Nat → DataW Unit
  | 0 => .map []
  | j + 1 => (DL ks vs j).put (litS (ks[j]?.getD ByteArray.empty)) (.lit (.string (lv vs j).data.toList))
theorem DL_isMap (ks vs : List ByteArray) : ∀ j, IsMap (DL ks vs j)
  | 0 => isMap_empty
  | j + 1 => (DL_isMap ks vs j).put _ _
theorem DL_has (ks vs : List ByteArray) (i : Nat) : ∀ j, i < j → Maps.has (DL ks vs j) (litS (ks[i]?.getD ByteArray.empty)) = true
  | 0, h => absurd h (by omega)
  | j + 1, h => by
    unfold DL
    by_cases e : litS (ks[i]?.getD ByteArray.empty) = litS (ks[j]?.getD ByteArray.empty)
    · rw [e]; exact has_put_same (DL_isMap ks vs j) (show WideAt.IsKeyLit (litS _) from trivial) _
    · rw [has_put_other e]
      exact DL_has ks vs i j (by
        rcases Nat.lt_succ_iff_lt_or_eq.1 h with h | h
        · exact h
        · subst h; exact absurd rfl e)

def LblAt (h : World) (v : Value) (isnil : Bool) (ks vs : List ByteArray) : Prop :=
  (v = .map none ∧ isnil = true) ∨ ∃ B, v = .map (some B) ∧ isnil = false ∧ h.ownsMap Yba.prog 9 (plainElem (H := Unit) Yba.prog 9) B ks.length (DL ks vs ks.length)
theorem LblAt.keep {h h' : World} {v : Value} {isnil : Bool} {ks vs : List ByteArray} (s : LblAt h v isnil ks vs) (k : ∀ (b : Nat) es cl, h.heap[b]? = some (.map es cl) → h'.heap[b]? = some (.map es cl)) : LblAt h' v isnil ks vs := by
  rcases s with s | ⟨B, e1, e2, o⟩
  · exact .inl s
  · exact .inr ⟨B, e1, e2, own_keep o k⟩

set_option maxHeartbeats 400000 in
theorem lblEq_some (B1 B2 : Nat) (x : Addr) (cap : Nat) (ks vs : List ByteArray) (w : World) (hl : ks.length ≤ 1048576) (h : InS w (some x) cap ks)
    (o1 : w.ownsMap Yba.prog 9 (plainElem (H := Unit) Yba.prog 9) B1 ks.length (DL ks vs ks.length)) (o2 : w.ownsMap Yba.prog 9 (plainElem (H := Unit) Yba.prog 9) B2 ks.length (DL ks vs ks.length)) :
    Calls Yba.prog 9 #[.map (some B1), .map (some B2), .slice (some x) ks.length cap] w fun e w' => e = .returned (.bool true) ∧ w' = w := by
  obtain ⟨_, h2, h3⟩ := h
  have q1 := fun wx => run_eql_map_nil (P := Yba.prog) wx 29 9 9 (some B1) Yba.underlying29
  have q2 := fun wx => run_eql_map_nil (P := Yba.prog) wx 29 9 9 (some B2) Yba.underlying29
  have l1 := o1.len Yba.underlying29
  have l2 := o2.len Yba.underlying29
  go_enter Yba.func9, Yba.ntmps9
  go_wp2
  go_loop [25] (fun i => ∃ j : Nat, j ≤ ks.length ∧ i = .int .i64 j) (fun i => ks.length - (intOf i).toNat)
  case atStart => exact ⟨0, Nat.zero_le _, rfl⟩
  case round =>
    obtain ⟨j, hj, rfl⟩ := hrel
    by_cases hjl : j < ks.length
    · obtain ⟨b, off, ex, hlt, hc⟩ := h2 (by omega)
      obtain rfl : x = ⟨b, off, none⟩ := by simpa using ex
      have hcj := hc j hjl
      have hsz := h3 _ (mem_at hjl)
      have hhas := DL_has ks vs j ks.length hjl
      obtain ⟨s, hs⟩ : ∃ s, s = ks[j]?.getD ByteArray.empty := ⟨_, rfl⟩
      rw [← hs] at hcj hsz hhas
      obtain ⟨v, ps, hrun, hv⟩ := o1.look_ok law9 Yba.underlying29 (zero9 _) (plainElem_string Yba.underlying9 (Nat.zero_le _)) (key9 hsz)
      obtain ⟨v2, ps2, hrun2, hv2⟩ := o2.lookup law9 Yba.underlying29 (zero9 _) (plainElem_string Yba.underlying9 (Nat.zero_le _)) (key9 hsz)
      obtain ⟨s1, rfl, e1, _⟩ := plainElem_string_inv Yba.underlying9 hv
      obtain ⟨s2, rfl, e2, _⟩ := plainElem_string_inv Yba.underlying9 hv2
      have es : s1 = s2 := by
        simp only [Prod.mk.injEq] at e1 e2
        have e3 := e1.1.symm.trans e2.1
        simp at e3
        exact ByteArray.ext e3
      subst es
      rw [hhas] at hrun
      clear hs ex hv hv2 e1 e2 hhas q1 q2 l1 l2 o1 o2 hc h2 h3
      go_wp2
      go_round
      case rel => exact ⟨j + 1, by omega, by go_num⟩
      case measure => simp [intOf]; omega
    · obtain rfl : j = ks.length := by omega
      go_wp2
      go_ret
      exact ⟨rfl, rfl⟩
theorem lblEq_nil (w : World) : Calls Yba.prog 9 #[.map none, .map none, .slice none 0 0] w fun e w' => e = .returned (.bool true) ∧ w' = w := by
  have q1 := fun wx => run_eql_map_nil (P := Yba.prog) wx 29 9 9 none Yba.underlying29
  have l1 := fun wx ty => Maps.len_nil (P := Yba.prog) (w := wx) Yba.underlying29 ty
  go_enter Yba.func9, Yba.ntmps9
  go_wp2
  refine wp_loop_rounds 1 ?_
  rw [rounds_succ]
  go_wp2
  go_ret
  exact ⟨rfl, rfl⟩
theorem lblEq_any (v1 v2 : Value) (sa : Option Addr) (cap : Nat) (ks vs : List ByteArray) (w : World) (hl : ks.length ≤ 1048576) (h : InS w sa cap ks) (s1 : LblAt w v1 sa.isNone ks vs) (s2 : LblAt w v2 sa.isNone ks vs) :
    Calls Yba.prog 9 #[v1, v2, .slice sa ks.length cap] w fun e w' => e = .returned (.bool true) ∧ w' = w := by
  cases sa with
  | none =>
    obtain ⟨rfl, rfl⟩ := h.1 rfl
    rcases s1 with ⟨rfl, _⟩ | ⟨_, _, e, _⟩
    · rcases s2 with ⟨rfl, _⟩ | ⟨_, _, e, _⟩
      · exact lblEq_nil w
      · simp at e
    · simp at e
  | some x =>
    rcases s1 with ⟨_, e⟩ | ⟨B1, rfl, _, o1⟩
    · simp at e
    · rcases s2 with ⟨_, e⟩ | ⟨B2, rfl, _, o2⟩
      · simp at e
      · exact lblEq_some B1 B2 x cap ks vs w hl h o1 o2
end Go.Proofs.Ybulkdwcq.lawB

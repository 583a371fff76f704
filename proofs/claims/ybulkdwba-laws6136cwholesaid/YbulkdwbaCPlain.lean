/-
  FOR 'Rows.LawS6136CWholeSaid': the plain law: trimming a conflict by its longest common prefix, then suffix. No Go here.
-/
import Derived.Below
namespace Go.Proofs.Ybulkdwba.lawC

/-- How many of f 0, f 1, .. hold from the first on, at most n. -/
def lcp (f : Nat → Bool) : Nat → Nat
  | 0 => 0
  | n + 1 => if lcp f n = n ∧ f n = true then n + 1 else lcp f n

theorem lcp_le (f : Nat → Bool) : ∀ n, lcp f n ≤ n
  | 0 => Nat.le_refl _
  | n + 1 => by unfold lcp; have := lcp_le f n; split <;> omega

theorem lcp_eq (f : Nat → Bool) : ∀ (n p : Nat), p ≤ n → (∀ i, i < p → f i = true) → (p < n → f p = false) → lcp f n = p
  | 0, p, h, _, _ => by unfold lcp; omega
  | n + 1, p, h, h1, h2 => by
    unfold lcp
    by_cases hp : p = n + 1
    · have e := lcp_eq f n n (Nat.le_refl _) (fun i hi => h1 i (by omega)) (fun h => absurd h (by omega))
      rw [if_pos ⟨e, h1 n (by omega)⟩]; omega
    · by_cases hn : p = n
      · subst hn
        rw [if_neg (by rw [h2 (by omega)]; simp)]
        exact lcp_eq f p p (Nat.le_refl _) (fun i hi => h1 i hi) (fun h => absurd h (by omega))
      · have e := lcp_eq f n p (by omega) h1 (fun _ => h2 (by omega))
        rw [e, if_neg (by omega)]

/-- A change: its flag, and the bounds of its three spans. -/
structure Ch where
  cf : Bool
  cl : Nat
  ch : Nat
  bl : Int
  bh : Int
  ol : Nat
  oh : Nat

def same (ci oi : List Int) (x y i : Nat) : Bool := ci[x + i]?.getD 0 == oi[y + i]?.getD 0
def sameR (ci oi : List Int) (x y i : Nat) : Bool := ci[x - 1 - i]?.getD 0 == oi[y - 1 - i]?.getD 0

def width (c : Ch) : Nat := min (c.ch - c.cl) (c.oh - c.ol)
def pfx (ci oi : List Int) (c : Ch) : Nat := lcp (same ci oi c.cl c.ol) (width c)
def sfx (ci oi : List Int) (c : Ch) : Nat := lcp (sameR ci oi c.ch c.oh) (width c - pfx ci oi c)
def trim (ci oi : List Int) (c : Ch) : Ch :=
  if c.cf = true then { c with cl := c.cl + pfx ci oi c, ol := c.ol + pfx ci oi c, ch := c.ch - sfx ci oi c, oh := c.oh - sfx ci oi c } else c

def Ch.ok (nc no : Nat) (c : Ch) : Prop := c.cl ≤ c.ch ∧ c.ch ≤ nc ∧ c.ol ≤ c.oh ∧ c.oh ≤ no

/-- The cells of a change, as they lie in memory. -/
def Ch.cells (c : Ch) : List Value := [.bool c.cf, .int .i64 c.cl, .int .i64 c.ch, .int .i64 c.bl, .int .i64 c.bh, .int .i64 c.ol, .int .i64 c.oh]
def flat (cs : List Ch) : List Value := cs.flatMap Ch.cells
theorem flat_len (cs : List Ch) : (flat cs).length = cs.length * 7 := by
  unfold flat
  induction cs with
  | nil => rfl
  | cons c cs ih => rw [List.flatMap_cons, List.length_append, ih, List.length_cons]; show 7 + _ = _; omega
theorem flat_at : ∀ (cs : List Ch) (i f : Nat) (c : Ch), cs[i]? = some c → f < 7 → (flat cs)[i * 7 + f]? = c.cells[f]?
  | [], i, f, c, h, _ => by simp at h
  | c0 :: cs, 0, f, c, h, hf => by
    simp at h; subst h
    unfold flat
    rw [List.flatMap_cons, List.getElem?_append_left (by show _ < 7; omega)]
    congr 1; omega
  | c0 :: cs, i + 1, f, c, h, hf => by
    have ih := flat_at cs i f c (by simpa using h) hf
    unfold flat at ih ⊢
    rw [List.flatMap_cons, List.getElem?_append_right (by show 7 ≤ _; omega), ← ih]
    congr 1; show (i + 1) * 7 + f - 7 = _; omega
theorem flat_set : ∀ (cs : List Ch) (i f : Nat) (c d : Ch) (v : Value), cs[i]? = some c → f < 7 → c.cells.set f v = d.cells → (flat cs).set (i * 7 + f) v = flat (cs.set i d)
  | [], i, f, c, d, v, h, _, _ => by simp at h
  | c0 :: cs, 0, f, c, d, v, h, hf, e => by
    simp at h; subst h
    unfold flat
    rw [List.flatMap_cons, List.set_append_left _ _ (by show _ < 7; omega), List.set_cons_zero, List.flatMap_cons, ← e]
    congr 2; omega
  | c0 :: cs, i + 1, f, c, d, v, h, hf, e => by
    have ih := flat_set cs i f c d v (by simpa using h) hf e
    unfold flat at ih ⊢
    rw [List.flatMap_cons, List.set_append_right _ _ (by show 7 ≤ _; omega), List.set_cons_succ, List.flatMap_cons, ← ih]
    congr 2; show (i + 1) * 7 + f - 7 = _; omega

/-- The first j changes trimmed. -/
def mix (T : Ch → Ch) (cs : List Ch) (j : Nat) : List Ch := (cs.take j).map T ++ cs.drop j
theorem mix_zero (T : Ch → Ch) (cs : List Ch) : mix T cs 0 = cs := by unfold mix; simp
theorem mix_full (T : Ch → Ch) (cs : List Ch) (n : Nat) (h : cs.length ≤ n) : mix T cs n = cs.map T := by
  unfold mix; rw [List.take_of_length_le h, List.drop_eq_nil_of_le h]; simp
theorem mix_len (T : Ch → Ch) (cs : List Ch) (j : Nat) : (mix T cs j).length = cs.length := by unfold mix; simp; omega
theorem mix_at (T : Ch → Ch) (cs : List Ch) (j : Nat) (h : j < cs.length) : (mix T cs j)[j]? = some cs[j] := by
  unfold mix
  rw [List.getElem?_append_right (by simp; omega)]
  simp [h, show j - min j cs.length = 0 by omega]
theorem mix_set (T : Ch → Ch) (cs : List Ch) (j : Nat) (h : j < cs.length) : (mix T cs j).set j (T cs[j]) = mix T cs (j + 1) := by
  have e : j - ((cs.take j).map T).length = 0 := by simp; omega
  unfold mix
  rw [List.set_append_right _ _ (by simp; omega), e, List.drop_eq_getElem_cons h, List.take_succ_eq_append_getElem h, List.set_cons_zero, List.map_append]
  simp only [List.map_cons, List.map_nil, List.append_assoc, List.cons_append, List.nil_append]
end Go.Proofs.Ybulkdwba.lawC

/-
  FOR 'Rows.LawS6136BShortestSaid': THE PLAIN LAW: longest common subsequences, their rows of bits, the path back. No Go here.
-/
import Derived.Laws.BitsAllLaws
namespace Go.Proofs.Ybulkdwba.lawB
set_option linter.unusedVariables false

/-- The length of a longest common subsequence of the first i lines of f and the first j of g. -/
def L (f g : Nat → Int) : Nat → Nat → Nat
  | 0, _ => 0
  | _ + 1, 0 => 0
  | i + 1, j + 1 => if f i = g j then L f g i j + 1 else max (L f g i (j + 1)) (L f g (i + 1) j)
termination_by i j => i + j

theorem L_zero (f g : Nat → Int) (j : Nat) : L f g 0 j = 0 := by rw [L]
theorem L_zero' (f g : Nat → Int) (i : Nat) : L f g i 0 = 0 := by cases i <;> rw [L]
theorem L_hit {f g : Nat → Int} {i j : Nat} (h : f i = g j) : L f g (i + 1) (j + 1) = L f g i j + 1 := by rw [L, if_pos h]
theorem L_miss {f g : Nat → Int} {i j : Nat} (h : f i ≠ g j) : L f g (i + 1) (j + 1) = max (L f g i (j + 1)) (L f g (i + 1) j) := by rw [L, if_neg h]

theorem L_near (f g : Nat → Int) : ∀ (t i j : Nat), i + j = t → L f g i j ≤ L f g (i + 1) j ∧ L f g (i + 1) j ≤ L f g i j + 1 ∧ L f g i j ≤ L f g i (j + 1) ∧ L f g i (j + 1) ≤ L f g i j + 1 := by
  intro t
  induction t with
  | zero =>
    intro i j h
    obtain ⟨rfl, rfl⟩ : i = 0 ∧ j = 0 := by omega
    rw [L_zero', L_zero', L_zero]; omega
  | succ t ih =>
    intro i j h
    have A : L f g i j ≤ L f g (i + 1) j ∧ L f g (i + 1) j ≤ L f g i j + 1 := by
      cases j with
      | zero => rw [L_zero', L_zero']; omega
      | succ j =>
        have := ih i j (by omega)
        by_cases e : f i = g j
        · rw [L_hit e]; omega
        · rw [L_miss e]; omega
    have B : L f g i j ≤ L f g i (j + 1) ∧ L f g i (j + 1) ≤ L f g i j + 1 := by
      cases i with
      | zero => rw [L_zero, L_zero]; omega
      | succ i =>
        have := ih i j (by omega)
        by_cases e : f i = g j
        · rw [L_hit e]; omega
        · rw [L_miss e]; omega
    exact ⟨A.1, A.2, B.1, B.2⟩

theorem L_le (f g : Nat → Int) (i j : Nat) : L f g i j ≤ i := by
  induction i with
  | zero => rw [L_zero]; omega
  | succ i ih => have := L_near f g _ i j rfl; omega
theorem L_mono (f g : Nat → Int) (i : Nat) : ∀ (d j : Nat), L f g i j ≤ L f g i (j + d) := by
  intro d
  induction d with
  | zero => intro j; exact Nat.le_refl _
  | succ d ih => intro j; have := ih j; have := L_near f g _ i (j + d) rfl; rw [show j + (d + 1) = j + d + 1 by omega]; omega
/-- s is a subsequence of the first j lines: no line more makes it longer. -/
theorem L_full {f g : Nat → Int} {n j m : Nat} (h : L f g n j = n) (hj : j ≤ m) : L f g n m = n := by
  have h1 := L_mono f g n (m - j) j
  rw [show j + (m - j) = m by omega] at h1
  have := L_le f g n m
  omega
theorem L_sym (f g : Nat → Int) : ∀ (t i j : Nat), i + j = t → L f g i j = L g f j i := by
  intro t
  induction t using Nat.strongRecOn with
  | _ t ih =>
    intro i j h
    cases i with
    | zero => rw [L_zero, L_zero']
    | succ i =>
      cases j with
      | zero => rw [L_zero, L_zero']
      | succ j =>
        by_cases e : f i = g j
        · rw [L_hit e, L_hit e.symm, ih (i + j) (by omega) i j rfl]
        · rw [L_miss e, L_miss (Ne.symm e), ih (i + (j + 1)) (by omega) i (j + 1) rfl, ih (i + 1 + j) (by omega) (i + 1) j rfl, Nat.max_comm]
theorem L_congr {f g f' g' : Nat → Int} : ∀ (t i j : Nat), i + j = t → (∀ k, k < i → f k = f' k) → (∀ k, k < j → g k = g' k) → L f g i j = L f' g' i j := by
  intro t
  induction t using Nat.strongRecOn with
  | _ t ih =>
    intro i j h hf hg
    cases i with
    | zero => rw [L_zero, L_zero]
    | succ i =>
      cases j with
      | zero => rw [L_zero', L_zero']
      | succ j =>
        have e1 := hf i (by omega)
        have e2 := hg j (by omega)
        by_cases e : f i = g j
        · rw [L_hit e, L_hit (by rw [← e1, ← e2]; exact e), ih (i + j) (by omega) i j rfl (fun k hk => hf k (by omega)) (fun k hk => hg k (by omega))]
        · rw [L_miss e, L_miss (by rw [← e1, ← e2]; exact e), ih (i + (j + 1)) (by omega) i (j + 1) rfl (fun k hk => hf k (by omega)) hg, ih (i + 1 + j) (by omega) (i + 1) j rfl hf (fun k hk => hg k (by omega))]

/-- The bit of line k of s in the row after j lines of l: 0 just where line k makes the subsequence longer. -/
def rb (f g : Nat → Int) (n j k : Nat) : Bool := if k < n then L f g (k + 1) j == L f g k j else true

/-- The carry into bit k of x + (x & m). -/
def cb (v m : Nat → Bool) (c : Bool) : Nat → Bool
  | 0 => c
  | k + 1 => if m k then v k else (v k && cb v m c k)
/-- Bit k of the next row. -/
def nb (v m : Nat → Bool) (c : Bool) (k : Nat) : Bool := if m k then cb v m c k else (v k || cb v m c k)

theorem cb_shift (v m : Nat → Bool) (c : Bool) (o : Nat) : ∀ k, cb (fun i => v (o + i)) (fun i => m (o + i)) (cb v m c o) k = cb v m c (o + k) := by
  intro k
  induction k with
  | zero => rfl
  | succ k ih => show (if m (o + k) then v (o + k) else (v (o + k) && _)) = cb v m c (o + k + 1); rw [ih]; rfl
theorem cb_congr {v m v' m' : Nat → Bool} (c : Bool) : ∀ k, (∀ i, i < k → v i = v' i ∧ m i = m' i) → cb v m c k = cb v' m' c k := by
  intro k
  induction k with
  | zero => intro _; rfl
  | succ k ih =>
    intro h
    have := h k (by omega)
    show (if m k then v k else (v k && cb v m c k)) = (if m' k then v' k else (v' k && cb v' m' c k))
    rw [this.1, this.2, ih (fun i hi => h i (by omega))]

/-- The carry into bit k is set just where the new line makes the subsequence with the first k lines of s longer. -/
theorem cb_row (f g : Nat → Int) (n j : Nat) : ∀ k, k ≤ n → cb (rb f g n j) (fun k => decide (k < n) && decide (f k = g j)) false k = decide (L f g k (j + 1) ≠ L f g k j) := by
  intro k
  induction k with
  | zero => intro _; rw [L_zero, L_zero]; rfl
  | succ k ih =>
    intro hk
    have hk' : k < n := by omega
    show (if (decide (k < n) && decide (f k = g j)) then rb f g n j k else (rb f g n j k && cb _ _ false k)) = _
    rw [ih (by omega)]
    have e1 := L_near f g _ k j rfl
    have e2 := L_near f g _ (k + 1) j rfl
    have e3 := L_near f g _ k (j + 1) rfl
    unfold rb
    rw [if_pos hk']
    by_cases e : f k = g j
    · have := L_hit e
      simp only [hk', e, decide_true, Bool.and_true, if_true]
      rw [this]
      rw [Bool.eq_iff_iff]; simp only [beq_iff_eq, decide_eq_true_eq]; omega
    · have := L_miss e
      simp only [hk', e, decide_true, decide_false, Bool.and_false, Bool.false_eq_true, if_false]
      rw [Bool.eq_iff_iff]; simp only [Bool.and_eq_true, beq_iff_eq, decide_eq_true_eq]; omega
/-- THE ROW's STEP. -/
theorem nb_row (f g : Nat → Int) (n j k : Nat) : nb (rb f g n j) (fun k => decide (k < n) && decide (f k = g j)) false k = rb f g n (j + 1) k := by
  by_cases hk : k < n
  · unfold nb
    rw [cb_row f g n j k (by omega)]
    have e1 := L_near f g _ k j rfl
    have e2 := L_near f g _ (k + 1) j rfl
    have e3 := L_near f g _ k (j + 1) rfl
    unfold rb
    rw [if_pos hk, if_pos hk]
    by_cases e : f k = g j
    · have := L_hit e
      simp only [hk, e, decide_true, Bool.and_true, if_true]
      rw [Bool.eq_iff_iff]; simp only [beq_iff_eq, decide_eq_true_eq]; omega
    · have := L_miss e
      simp only [hk, e, decide_true, decide_false, Bool.and_false, Bool.false_eq_true, if_false]
      rw [Bool.eq_iff_iff]; simp only [Bool.or_eq_true, beq_iff_eq, decide_eq_true_eq]; omega
  · unfold nb rb
    rw [if_neg hk, if_neg hk]
    simp [hk]
/-- A line that s has not leaves the row as it was. -/
theorem rb_same {f g : Nat → Int} {n j : Nat} (h : ∀ k, k < n → f k ≠ g j) (k : Nat) : rb f g n (j + 1) k = rb f g n j k := by
  have hL : ∀ k, k ≤ n → L f g k (j + 1) = L f g k j := by
    intro k
    induction k with
    | zero => intro _; rw [L_zero, L_zero]
    | succ k ih =>
      intro hk
      have := ih (by omega)
      have e1 := L_near f g _ k j rfl
      have e2 := L_near f g _ (k + 1) j rfl
      rw [L_miss (h k (by omega))]; omega
  unfold rb
  by_cases hk : k < n
  · rw [if_pos hk, if_pos hk, hL _ (by omega), hL _ (by omega)]
  · rw [if_neg hk, if_neg hk]
theorem rb_zero (f g : Nat → Int) (n k : Nat) : rb f g n 0 k = true := by
  unfold rb; split
  · rw [L_zero', L_zero']; rfl
  · rfl
/-- No bit of a line of s is set: s is a subsequence of the lines so far. -/
theorem L_all {f g : Nat → Int} {n j : Nat} (h : ∀ k, k < n → rb f g n j k = false) : L f g n j = n := by
  have : ∀ k, k ≤ n → L f g k j = k := by
    intro k
    induction k with
    | zero => intro _; rw [L_zero]
    | succ k ih =>
      intro hk
      have h1 := h k (by omega)
      unfold rb at h1
      rw [if_pos (by omega)] at h1
      have h2 := ih (by omega)
      have h3 := L_near f g _ k j rfl
      simp only [beq_eq_false_iff_ne] at h1
      omega
  exact this n (Nat.le_refl _)

/-! ### One word. -/
def M64 : Nat := 18446744073709551616

theorem tb_sub (y i : Nat) (hy : y < 18446744073709551616) (hi : i < 64) : (18446744073709551615 - y).testBit i = !y.testBit i := by
  have := Nat.testBit_two_pow_sub_succ (n := 64) (x := y) (by simpa using hy) i
  rw [show (2 : Nat) ^ 64 - (y + 1) = 18446744073709551615 - y by omega] at this
  rw [this]; simp [hi]

theorem carry_cb (X Y : BitVec 64) (c : Bool) : ∀ i, BitVec.carry i X (X &&& Y) c = cb (fun k => X.getLsbD k) (fun k => Y.getLsbD k) c i := by
  intro i
  induction i with
  | zero => simp [BitVec.carry_zero, cb]
  | succ i ih =>
    rw [BitVec.carry_succ, ih]
    simp only [cb, BitVec.getLsbD_and]
    cases X.getLsbD i <;> cases Y.getLsbD i <;> simp [Bool.atLeastTwo]

/-- One word of the step: its bits and the carry out. -/
theorem word_step (x y : Nat) (c : Bool) (hx : x < 18446744073709551616) (hy : y < 18446744073709551616) :
    (∀ i, i < 64 → (((x + (x &&& y) + c.toNat) % 18446744073709551616) ||| (x &&& (18446744073709551615 - y))).testBit i = nb (fun k => x.testBit k) (fun k => y.testBit k) c i) ∧
    (x + (x &&& y) + c.toNat) / 18446744073709551616 = (cb (fun k => x.testBit k) (fun k => y.testBit k) c 64).toNat := by
  have hb : ∀ (z i : Nat), z < 18446744073709551616 → (BitVec.ofNat 64 z).getLsbD i = z.testBit i := by
    intro z i hz
    rw [BitVec.getLsbD_ofNat]
    by_cases hi : i < 64
    · simp [hi]
    · rw [Nat.testBit_lt_two_pow (Nat.lt_of_lt_of_le (show z < 2 ^ 64 by simpa using hz) (Nat.pow_le_pow_right (by decide) (by omega)))]; simp
  have hcb : ∀ i, cb (fun k => (BitVec.ofNat 64 x).getLsbD k) (fun k => (BitVec.ofNat 64 y).getLsbD k) c i = cb (fun k => x.testBit k) (fun k => y.testBit k) c i := fun i => cb_congr c i (fun k _ => ⟨hb x k hx, hb y k hy⟩)
  have hand : x &&& y < 18446744073709551616 := Nat.lt_of_le_of_lt Nat.and_le_left hx
  have eand : BitVec.ofNat 64 (x &&& y) = BitVec.ofNat 64 x &&& BitVec.ofNat 64 y := by
    apply BitVec.eq_of_getLsbD_eq
    intro i hi
    rw [hb _ _ hand, BitVec.getLsbD_and, hb _ _ hx, hb _ _ hy, Nat.testBit_and]
  constructor
  · intro i hi
    have hs := BitVec.getLsbD_add_add_bool hi (BitVec.ofNat 64 x) (BitVec.ofNat 64 x &&& BitVec.ofNat 64 y) c
    rw [carry_cb, hcb] at hs
    have e : (BitVec.ofNat 64 x + (BitVec.ofNat 64 x &&& BitVec.ofNat 64 y) + BitVec.setWidth 64 (BitVec.ofBool c)) = BitVec.ofNat 64 ((x + (x &&& y) + c.toNat) % 18446744073709551616) := by
      apply BitVec.eq_of_toNat_eq
      rw [← eand]
      generalize x &&& y = z
      cases c <;> simp [BitVec.toNat_add]
    rw [e, hb _ _ (Nat.mod_lt _ (by decide))] at hs
    rw [Nat.testBit_or, hs, Nat.testBit_and, tb_sub y i hy hi, BitVec.getLsbD_and, hb _ _ hx, hb _ _ hy]
    unfold nb
    generalize cb _ _ c i = q
    dsimp only
    by_cases hY : y.testBit i = true
    · rw [if_pos hY, hY]; cases x.testBit i <;> cases q <;> rfl
    · rw [if_neg hY, Bool.not_eq_true _ |>.mp hY]; cases x.testBit i <;> cases q <;> rfl
  · have h1 := carry_cb (BitVec.ofNat 64 x) (BitVec.ofNat 64 y) c 64
    rw [hcb] at h1
    rw [← h1, ← eand]
    unfold BitVec.carry
    have e1 : (BitVec.ofNat 64 x).toNat % 2 ^ 64 = x := by simp; omega
    have e2 : (BitVec.ofNat 64 (x &&& y)).toNat % 2 ^ 64 = x &&& y := by
      generalize x &&& y = z at hand
      simp; omega
    rw [e1, e2]
    generalize x &&& y = z at *
    cases c
    · simp only [Bool.toNat_false]
      by_cases h : x + z + 0 ≥ 2 ^ 64
      · simp only [h, decide_true, Bool.toNat_true]; omega
      · simp only [h, decide_false, Bool.toNat_false]; omega
    · simp only [Bool.toNat_true]
      by_cases h : x + z + 1 ≥ 2 ^ 64
      · simp only [h, decide_true, Bool.toNat_true]; omega
      · simp only [h, decide_false, Bool.toNat_false]; omega

/-! ### The lines that are kept, and the path back. -/
/-- Of d lines from lo on, those that are not marked, in order. -/
def kp (f : Nat → Int) (ch : Nat → Bool) (lo : Nat) : Nat → List Int
  | 0 => []
  | d + 1 => kp f ch lo d ++ (if ch (lo + d) then [] else [f (lo + d)])
theorem kp_front (f : Nat → Int) (ch : Nat → Bool) (lo : Nat) : ∀ d, kp f ch lo (d + 1) = (if ch lo then [] else [f lo]) ++ kp f ch (lo + 1) d := by
  intro d
  induction d with
  | zero => simp [kp]
  | succ d ih =>
    rw [kp, ih]
    show _ = (if ch lo then [] else [f lo]) ++ (kp f ch (lo + 1) d ++ _)
    rw [show lo + 1 + d = lo + (d + 1) by omega, List.append_assoc]
theorem kp_congr {f f' : Nat → Int} {ch ch' : Nat → Bool} {lo : Nat} : ∀ d, (∀ k, lo ≤ k → k < lo + d → f k = f' k ∧ ch k = ch' k) → kp f ch lo d = kp f' ch' lo d := by
  intro d
  induction d with
  | zero => intro _; rfl
  | succ d ih =>
    intro h
    have h1 := h (lo + d) (by omega) (by omega)
    rw [kp, kp, ih (fun k a b => h k a (by omega)), h1.1, h1.2]
theorem kp_shift (f : Nat → Int) (ch : Nat → Bool) (o lo : Nat) : ∀ d, kp (fun k => f (o + k)) (fun k => ch (o + k)) lo d = kp f ch (o + lo) d := by
  intro d
  induction d with
  | zero => rfl
  | succ d ih => rw [kp, kp, ih, Nat.add_assoc]
theorem kp_all {f : Nat → Int} {ch : Nat → Bool} {lo : Nat} : ∀ d, (∀ k, lo ≤ k → k < lo + d → ch k = true) → kp f ch lo d = [] := by
  intro d
  induction d with
  | zero => intro _; rfl
  | succ d ih => intro h; rw [kp, ih (fun k a b => h k a (by omega)), h (lo + d) (by omega) (by omega)]; rfl

/-- The path back at (i, j). -/
structure Back (f g : Nat → Int) (n m : Nat) (cs cl : Nat → Bool) (i j : Nat) : Prop where
  hi : i ≤ n
  hj : j ≤ m
  s0 : ∀ k, k < i → cs k = false
  l0 : ∀ k, k < j → cl k = false
  eq : kp f cs i (n - i) = kp g cl j (m - j)
  len : (kp f cs i (n - i)).length + L f g i j = L f g n m
theorem Back.start {f g : Nat → Int} {n m j : Nat} {cs cl : Nat → Bool} (hj : j ≤ m) (hs : ∀ k, k < n → cs k = false) (hl : ∀ k, k < j → cl k = false) (hm : ∀ k, j ≤ k → k < m → cl k = true) (hL : L f g n j = L f g n m) : Back f g n m cs cl n j :=
  ⟨Nat.le_refl _, hj, hs, hl, by rw [Nat.sub_self, kp_all (m - j) (fun k a b => hm k a (by omega))]; rfl, by rw [Nat.sub_self]; simpa [kp] using hL⟩
theorem Back.hit {f g : Nat → Int} {n m i j : Nat} {cs cl : Nat → Bool} (b : Back f g n m cs cl (i + 1) (j + 1)) (h : f i = g j) : Back f g n m cs cl i j := by
  have h1 := b.hi
  have h2 := b.hj
  have e1 : kp f cs i (n - i) = f i :: kp f cs (i + 1) (n - (i + 1)) := by
    rw [show n - i = (n - (i + 1)) + 1 by omega, kp_front, b.s0 i (by omega)]; rfl
  have e2 : kp g cl j (m - j) = g j :: kp g cl (j + 1) (m - (j + 1)) := by
    rw [show m - j = (m - (j + 1)) + 1 by omega, kp_front, b.l0 j (by omega)]; rfl
  refine ⟨by omega, by omega, fun k hk => b.s0 k (by omega), fun k hk => b.l0 k (by omega), ?_, ?_⟩
  · rw [e1, e2, b.eq, h]
  · have := b.len; rw [L_hit h] at this; rw [e1, List.length_cons]; omega
theorem Back.markS {f g : Nat → Int} {n m i j : Nat} {cs cs' cl : Nat → Bool} (b : Back f g n m cs cl (i + 1) j) (h : L f g i j = L f g (i + 1) j) (h1 : cs' i = true) (h2 : ∀ k, k ≠ i → cs' k = cs k) : Back f g n m cs' cl i j := by
  have hi := b.hi
  have e1 : kp f cs' i (n - i) = kp f cs (i + 1) (n - (i + 1)) := by
    rw [show n - i = (n - (i + 1)) + 1 by omega, kp_front, h1, kp_congr (f' := f) (ch' := cs) _ (fun k a _ => ⟨rfl, h2 k (by omega)⟩)]; rfl
  exact ⟨by omega, b.hj, fun k hk => by rw [h2 k (by omega)]; exact b.s0 k (by omega), b.l0, by rw [e1]; exact b.eq, by rw [e1, h]; exact b.len⟩
theorem Back.markL {f g : Nat → Int} {n m i j : Nat} {cs cl cl' : Nat → Bool} (b : Back f g n m cs cl i (j + 1)) (h : L f g i j = L f g i (j + 1)) (h1 : cl' j = true) (h2 : ∀ k, k ≠ j → cl' k = cl k) : Back f g n m cs cl' i j := by
  have hj := b.hj
  have e1 : kp g cl' j (m - j) = kp g cl (j + 1) (m - (j + 1)) := by
    rw [show m - j = (m - (j + 1)) + 1 by omega, kp_front, h1, kp_congr (f' := g) (ch' := cl) _ (fun k a _ => ⟨rfl, h2 k (by omega)⟩)]; rfl
  exact ⟨b.hi, by omega, b.s0, fun k hk => by rw [h2 k (by omega)]; exact b.l0 k (by omega), by rw [e1]; exact b.eq, by rw [h]; exact b.len⟩
/-- The bit is set: the line of s may go. -/
theorem L_bit1 {f g : Nat → Int} {n i j : Nat} (hi : i < n) (h : rb f g n j i = true) : L f g i j = L f g (i + 1) j := by
  unfold rb at h; rw [if_pos hi] at h; simpa using (beq_iff_eq.1 h).symm
/-- The bit is not set and the lines differ: the line of l may go. -/
theorem L_bit0 {f g : Nat → Int} {n i j : Nat} (hi : i < n) (h : rb f g n (j + 1) i = false) (hne : f i ≠ g j) : L f g (i + 1) j = L f g (i + 1) (j + 1) := by
  unfold rb at h; rw [if_pos hi] at h
  have h1 : L f g (i + 1) (j + 1) ≠ L f g i (j + 1) := by simpa using h
  have := L_miss hne
  omega

/-- What a box is to hold: the lines kept on either side read alike and are as many as can be. -/
def Done (f g : Nat → Int) (n m : Nat) (cs cl : Nat → Bool) : Prop := kp f cs 0 n = kp g cl 0 m ∧ (kp f cs 0 n).length = L f g n m
theorem Back.done {f g : Nat → Int} {n m : Nat} {cs cl : Nat → Bool} (b : Back f g n m cs cl 0 0) : Done f g n m cs cl := ⟨by simpa using b.eq, by have := b.len; rw [L_zero] at this; simpa using this⟩
theorem Done.sym {f g : Nat → Int} {n m : Nat} {cs cl : Nat → Bool} (d : Done f g n m cs cl) : Done g f m n cl cs := ⟨d.1.symm, by rw [← d.1, d.2]; exact L_sym f g _ n m rfl⟩
theorem Done.congr {f g f' g' : Nat → Int} {n m : Nat} {cs cl cs' cl' : Nat → Bool} (d : Done f g n m cs cl) (h1 : ∀ k, k < n → f k = f' k ∧ cs k = cs' k) (h2 : ∀ k, k < m → g k = g' k ∧ cl k = cl' k) : Done f' g' n m cs' cl' := by
  have e1 : kp f cs 0 n = kp f' cs' 0 n := kp_congr _ (fun k _ b => h1 k (by omega))
  have e2 : kp g cl 0 m = kp g' cl' 0 m := kp_congr _ (fun k _ b => h2 k (by omega))
  exact ⟨by rw [← e1, ← e2]; exact d.1, by rw [← e1, d.2]; exact L_congr _ n m rfl (fun k hk => (h1 k hk).1) (fun k hk => (h2 k hk).1)⟩
end Go.Proofs.Ybulkdwba.lawB

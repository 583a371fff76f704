/-
  FOR 'Rows.LawS6136BShortestSaid': the memory of compareByBits on the path back; 'keep' and 'grow' as it calls them.
-/
import Derived.Test.YbulkdwbaBKeep2
import Derived.Test.YbulkdwbaBNew
namespace Go.Proofs.Ybulkdwba.lawB
open Go.ChangeShapes Go.WideShapes Go.ChangeAt Go.RowKit Go.Deep Go.Maps
open lawC (rowI rowI_cell rowI_frozen rowI_set made_rowI info3)
set_option linter.unusedVariables false

/-- A statement of a function's text, found by its number. -/
def fRegion (n : Nat) : Code → Option Code
  | .region k ops d => if k = n then some (.region k ops d) else none
  | .seq a b => match fRegion n a with
    | some c => some c
    | none => fRegion n b
  | .cond _ a b => match fRegion n a with
    | some c => some c
    | none => fRegion n b
  | .block _ c => fRegion n c
  | .loop c => fRegion n c
  | .scope c => fRegion n c
  | _ => none
def fBlock (n : Nat) : Code → Option Code
  | .block k c => if k = n then some (.block k c) else fBlock n c
  | .seq a b => match fBlock n a with
    | some c => some c
    | none => fBlock n b
  | .cond _ a b => match fBlock n a with
    | some c => some c
    | none => fBlock n b
  | .loop c => fBlock n c
  | .scope c => fBlock n c
  | _ => none

theorem lt_of_some {w : World} {k : Nat} {o : Obj} (h : w.heap[k]? = some o) : k < w.heap.size := (Array.getElem?_eq_some_iff.1 h).1
/-- All is kept but the blocks of S. -/
structure Keeps (S : Nat → Prop) (w h : World) : Prop where
  os : h.os = w.os
  tape : h.tape = w.tape
  output : h.output = w.output
  size : w.heap.size ≤ h.heap.size
  block : ∀ k, k < w.heap.size → ¬ S k → h.heap[k]? = w.heap[k]?
theorem Keeps.refl (S : Nat → Prop) (w : World) : Keeps S w w := ⟨rfl, rfl, rfl, Nat.le_refl _, fun _ _ _ => rfl⟩
theorem Keeps.trans {S : Nat → Prop} {a b c : World} (h : Keeps S a b) (k : Keeps S b c) : Keeps S a c :=
  ⟨k.os.trans h.os, k.tape.trans h.tape, k.output.trans h.output, Nat.le_trans h.size k.size, fun t ht hs => (k.block t (Nat.lt_of_lt_of_le ht h.size) hs).trans (h.block t ht hs)⟩
theorem Keeps.grown {S : Nat → Prop} {a b : World} {g : Nat} (h : a.grownBy b (some g)) (hS : S g) : Keeps S a b :=
  ⟨h.os, h.tape, h.output, h.size, fun t ht hs => h.block t ht (by intro e; cases e; exact hs hS)⟩
theorem Keeps.below {S : Nat → Prop} {a b : World} (h : Below a.heap.size a b) : Keeps S a b := ⟨h.os, h.tape, h.output, h.size, fun t ht _ => h.block t ht⟩
theorem Keeps.drewN {S : Nat → Prop} {a b : World} (h : Keeps S a b) (k : Nat) : Keeps S a (b.drewN k) := ⟨h.os, h.tape, h.output, h.size, h.block⟩
theorem Keeps.mono {S T : Nat → Prop} {a b : World} (h : Keeps S a b) (hT : ∀ k, k < a.heap.size → S k → T k) : Keeps T a b := ⟨h.os, h.tape, h.output, h.size, fun t ht hs => h.block t ht (fun e => hs (hT t ht e))⟩

/-- The marks of a box. -/
def mk (b : List Bool) (o : Nat) : Nat → Bool := fun k => b[o + k]?.getD false
theorem mk_set {b : List Bool} {o i : Nat} (h : o + i < b.length) : mk (b.set (o + i) true) o i = true ∧ ∀ k, k ≠ i → mk (b.set (o + i) true) o k = mk b o k := by
  unfold mk
  exact ⟨by rw [List.getElem?_set_self h]; rfl, fun k hk => by rw [List.getElem?_set_ne (by omega)]⟩

/-- compareByBits on its path back. -/
structure PB (w1 : World) (P R X Y CX CY xo yo n m W fin wl N mb : Nat) (lo : Int) (p : Option Addr) (l c : Nat) (mm : Option Nat) (q : Int → Option Nat) (mt : List Nat) (zx zy : List Int) (bx0 by0 : List Bool) (ws : List Nat) (bx by' : List Bool) (h : World) : Prop where
  bv : BV h P (lin zx xo) n W lo (.slice p l c) (.map mm) N q mb mt
  rr : h.heap[R]? = some (rowU ws)
  wl : ws.length = wl
  lt : AllW ws
  kept : ∀ c', c' * W ≤ fin → RowAt (lin zx xo) (lin zy yo) n W ws (c' * W) (c' * W)
  rx : h.heap[X]? = some (rowI zx)
  ry : h.heap[Y]? = some (rowI zy)
  cx : h.heap[CX]? = some (rowB bx)
  cy : h.heap[CY]? = some (rowB by')
  lx : bx.length = bx0.length
  ly : by'.length = by0.length
  ox : ∀ t, (t < xo ∨ xo + n ≤ t) → bx[t]? = bx0[t]?
  oy : ∀ t, (t < yo ∨ yo + m ≤ t) → by'[t]? = by0[t]?
  kp : Keeps (fun k => k = R ∨ k = CX ∨ k = CY) w1 h
section
variable {w1 : World} {P R X Y CX CY xo yo n m W fin wl N mb : Nat} {lo : Int} {p : Option Addr} {l c : Nat} {mm : Option Nat} {q : Int → Option Nat} {mt : List Nat} {zx zy : List Int} {bx0 by0 : List Bool} {ws : List Nat} {bx by' : List Bool} {h : World}
theorem PB.drewN (s : PB w1 P R X Y CX CY xo yo n m W fin wl N mb lo p l c mm q mt zx zy bx0 by0 ws bx by' h) (k : Nat) : PB w1 P R X Y CX CY xo yo n m W fin wl N mb lo p l c mm q mt zx zy bx0 by0 ws bx by' (h.drewN k) :=
  ⟨⟨s.bv.bx, s.bv.ix, s.bv.iv, s.bv.slo, s.bv.rm, s.bv.ok, s.bv.hW, s.bv.hn0, s.bv.hn⟩, s.rr, s.wl, s.lt, s.kept, s.rx, s.ry, s.cx, s.cy, s.lx, s.ly, s.ox, s.oy, s.kp.drewN k⟩
theorem row_ne {α β : Type} {u : α → Value} {v : β → Value} {t t' : TypeId} {xs : List α} {ys : List β} {h : World} {a b : Nat} (ha : h.heap[a]? = some (rowV u t xs)) (hb : h.heap[b]? = some (rowV v t' ys)) (ht : t ≠ t') : a ≠ b := fun e => by
  rw [e, hb] at ha; simp [rowV] at ha; exact ht ha.2.symm
theorem rowI_eq (zs : List Int) : rowI zs = rowV (Value.int .i64) 3 zs := rfl
theorem bvP_ne {α : Type} {u : α → Value} {t : TypeId} {xs : List α} {f : Nat → Int} {dv sv : Value} (b : BV h P f n W lo dv sv N q mb mt) {a : Nat} (ha : h.heap[a]? = some (rowV u t xs)) (ht : t ≠ 64) : a ≠ P := fun e => by
  have h1 := b.bx; rw [← e, ha] at h1; simp [boxV, rowV] at h1; exact ht h1.2
theorem PB.markX (s : PB w1 P R X Y CX CY xo yo n m W fin wl N mb lo p l c mm q mt zx zy bx0 by0 ws bx by' h) (hne : CX ≠ CY) {i : Nat} (hi : i < n) (k : Nat) :
    PB w1 P R X Y CX CY xo yo n m W fin wl N mb lo p l c mm q mt zx zy bx0 by0 ws (bx.set (xo + i) true) by' ((h.drewN k).setCell ⟨CX, xo + i, none⟩ (.bool true)) := by
  have s1 := s.drewN k
  have hg := grown_setCell (World.grownBy.refl (h.drewN k) (some CX)) (xo + i) (.bool true)
  have hX : X ≠ CX := row_ne (rowI_eq zx ▸ s.rx) s.cx (by decide)
  have hY : Y ≠ CX := row_ne (rowI_eq zy ▸ s.ry) s.cx (by decide)
  have hR : R ≠ CX := row_ne s.rr s.cx (by decide)
  have hm : mb ≠ CX := row_ne s.bv.rm s.cx (by decide)
  have hO : ∀ {b : Nat} {o : Obj}, h.heap[b]? = some o → b ≠ CX → ((h.drewN k).setCell ⟨CX, xo + i, none⟩ (.bool true)).heap[b]? = some o := fun {b o} hb hne => (heap_setCell_other _ _ _ _ (by exact hne)).trans hb
  refine ⟨s1.bv.grown s1.cx (by decide) (bvP_ne s.bv s.cx (by decide)) hm.symm hg, hO s.rr hR, s.wl, s.lt, s.kept, hO s.rx hX, hO s.ry hY, rowV_set (v := Value.bool) s1.cx _ _, hO s.cy hne.symm, by rw [List.length_set]; exact s.lx, s.ly, fun t ht => ?_, s.oy, s1.kp.trans (Keeps.grown hg (.inr (.inl rfl)))⟩
  rw [List.getElem?_set_ne (by omega)]; exact s.ox t ht
theorem PB.markY (s : PB w1 P R X Y CX CY xo yo n m W fin wl N mb lo p l c mm q mt zx zy bx0 by0 ws bx by' h) (hne : CX ≠ CY) {i : Nat} (hi : i < m) (k : Nat) :
    PB w1 P R X Y CX CY xo yo n m W fin wl N mb lo p l c mm q mt zx zy bx0 by0 ws bx (by'.set (yo + i) true) ((h.drewN k).setCell ⟨CY, yo + i, none⟩ (.bool true)) := by
  have s1 := s.drewN k
  have hg := grown_setCell (World.grownBy.refl (h.drewN k) (some CY)) (yo + i) (.bool true)
  have hX : X ≠ CY := row_ne (rowI_eq zx ▸ s.rx) s.cy (by decide)
  have hY : Y ≠ CY := row_ne (rowI_eq zy ▸ s.ry) s.cy (by decide)
  have hR : R ≠ CY := row_ne s.rr s.cy (by decide)
  have hm : mb ≠ CY := row_ne s.bv.rm s.cy (by decide)
  have hO : ∀ {b : Nat} {o : Obj}, h.heap[b]? = some o → b ≠ CY → ((h.drewN k).setCell ⟨CY, yo + i, none⟩ (.bool true)).heap[b]? = some o := fun {b o} hb hne => (heap_setCell_other _ _ _ _ (by exact hne)).trans hb
  refine ⟨s1.bv.grown s1.cy (by decide) (bvP_ne s.bv s.cy (by decide)) hm.symm hg, hO s.rr hR, s.wl, s.lt, s.kept, hO s.rx hX, hO s.ry hY, hO s.cx hne, rowV_set (v := Value.bool) s1.cy _ _, s.lx, by rw [List.length_set]; exact s.ly, s.ox, fun t ht => ?_, s1.kp.trans (Keeps.grown hg (.inr (.inr rfl)))⟩
  rw [List.getElem?_set_ne (by omega)]; exact s.oy t ht
theorem PB.walk (s : PB w1 P R X Y CX CY xo yo n m W fin wl N mb lo p l c mm q mt zx zy bx0 by0 ws bx by' h) (hRm : R ≠ mb) {K F d k : Nat} (hK : ∀ c', c' * W ≤ fin → c' * W + W ≤ K) {ws1 : List Nat} {h1 : World} (t : WalkP (lin zx xo) (lin zy yo) n W F d (h.drewN k) R K ws ws1 h1) :
    PB w1 P R X Y CX CY xo yo n m W fin wl N mb lo p l c mm q mt zx zy bx0 by0 ws1 bx by' h1 := by
  have s1 := s.drewN k
  have hX : X ≠ R := row_ne (rowI_eq zx ▸ s.rx) s.rr (by decide)
  have hY : Y ≠ R := row_ne (rowI_eq zy ▸ s.ry) s.rr (by decide)
  have hCX : CX ≠ R := row_ne s.cx s.rr (by decide)
  have hCY : CY ≠ R := row_ne s.cy s.rr (by decide)
  have hO : ∀ {b : Nat} {o : Obj}, h.heap[b]? = some o → b ≠ R → h1.heap[b]? = some o := fun {b o} hb hne => (t.gr.block b (lt_of_some hb) (by intro e; cases e; exact hne rfl)).trans hb
  exact ⟨s1.bv.words s1.rr hRm t.gr, t.rr, t.len.trans s.wl, t.lt, fun c' hc => (s.kept c' hc).keep (fun i hi => t.out _ (.inl (by have := hK c' hc; omega))), hO s.rx hX, hO s.ry hY, hO s.cx hCX, hO s.cy hCY, s.lx, s.ly, s.ox, s.oy, s1.kp.trans (Keeps.grown t.gr (.inl rfl))⟩
end
/-- What 'between' holds: nothing yet, or the rows after 'fr' .. -/
def Btw (f g : Nat → Int) (n W fin K : Nat) (fr : Int) (ws : List Nat) : Prop :=
  fr = -1 ∨ ∃ F : Nat, fr = (F : Int) ∧ ∀ r, r < W - 1 → F + r < fin → RowAt f g n W ws (K + r * W) (F + r + 1)
theorem start_dec (j W : Nat) (hW : 0 < W) : ((j < (j + 1) / W * W → j / W * W = (j + 1) / W * W - W ∧ W ≤ (j + 1) / W * W) ∧ (¬ j < (j + 1) / W * W → j / W * W = (j + 1) / W * W)) := by
  have h1 := Nat.div_add_mod (j + 1) W
  have h2 := Nat.mod_lt (j + 1) hW
  have h3 := Nat.div_add_mod j W
  have h4 := Nat.mod_lt j hW
  rw [Nat.mul_comm W] at h1 h3
  obtain ⟨a, ha⟩ : ∃ a, a = j / W := ⟨_, rfl⟩
  obtain ⟨b, hb⟩ : ∃ b, b = (j + 1) / W := ⟨_, rfl⟩
  rw [← ha] at h3 ⊢
  rw [← hb] at h1 ⊢
  have hab : b = a ∨ b = a + 1 := by
    have hle : a ≤ b := by rw [ha, hb]; exact Nat.div_le_div_right (by omega)
    rcases Nat.lt_or_ge (a + 1) b with h | h
    · have : (a + 1 + 1) * W ≤ b * W := Nat.mul_le_mul_right _ h
      rw [mul1, mul1] at this
      omega
    · omega
  rcases hab with rfl | rfl
  · exact ⟨fun h => by omega, fun _ => rfl⟩
  · rw [mul1] at h1 ⊢
    exact ⟨fun _ => by omega, fun h => by omega⟩
theorem bit_nat (x r : Nat) : (x / 2 ^ r) &&& 1 = (x.testBit r).toNat := by
  rw [Nat.and_one_is_mod, Nat.testBit_eq_decide_div_mod_eq]
  have := Nat.mod_lt (x / 2 ^ r) (show 0 < 2 by decide)
  by_cases h : x / 2 ^ r % 2 = 1
  · rw [h]; rfl
  · simp [h]; omega
theorem shr_run (x r : Nat) (hx : x < 18446744073709551616) (hr : r < 64) (wx : World) : (Op.shift .shr .u64 (x : Int) .i64 (r : Int)).run Yba.prog wx = .ok (.int .u64 ((x / 2 ^ r : Nat) : Int)) wx := by
  rw [shift_shr_u64 .i64 (x : Int) (r : Int) (by omega) (by omega)]
  have : (x : Int) / 2 ^ ((r : Int)).toNat = ((x / 2 ^ r : Nat) : Int) := by rw [Int.toNat_natCast]; simp
  rw [this]; rfl

/-- keep, as compareByBits calls it. -/
theorem keep_any (P : Nat) (f g : Nat → Int) (n W : Nat) (lo : Int) (p : Option Addr) (l c : Nat) (mm : Option Nat) (N : Nat) (q : Int → Option Nat) (mb : Nat) (mt : List Nat) (R K cK B bo m cB : Nat) (bt : Value) (zs : List Int) (ws : List Nat) (w : World)
    (bv : BV w P f n W lo (.slice p l c) (.map mm) N q mb mt) (hR : w.heap[R]? = some (rowU ws)) (hB : w.heap[B]? = some (rowI zs)) (hmb : R ≠ mb) (hlt : AllW ws) (hlen : ws.length ≤ 1000000) (hm : m ≤ 4096) (hK : K = (m / W + 1) * W) (hKl : K + (W - 1) * W ≤ ws.length) (hcK : K ≤ cK) (hbt : 2 ≤ W → ∃ cb, bt = .slice (some ⟨R, K, none⟩) ((W - 1) * W) cb ∧ (W - 1) * W ≤ cb) (hmB : m ≤ cB)
    (hids : ∀ k, k < m → bo + k < zs.length ∧ zs[bo + k]?.getD 0 = g k ∧ Small (g k)) (hrow : RowAt f g n W ws 0 0) :
    Calls Yba.prog 19 #[.pointer (some ⟨P, 0, none⟩), .slice (some ⟨R, 0, none⟩) K cK, bt, .slice (some ⟨B, bo, none⟩) m cB] w (KeepP f g n W m w R ws) := by
  have hW0 : 0 < W := by have := bv.hW; have := bv.hn0; omega
  by_cases h2 : 2 ≤ W
  · obtain ⟨cb, rfl, hcb⟩ := hbt h2
    exact keep_more P f g n W lo p l c mm N q mb mt R K cK _ cb B bo m cB zs ws w bv hR hB hmb hlt hlen hm h2 hK hKl hcK rfl hcb hmB hids hrow
  · obtain rfl : W = 1 := by omega
    exact keep_one P f g n lo p l c mm N q mb mt R K cK B bo m cB bt zs ws w bv hR hB hmb hlt hlen hm (by rw [hK]; simp) (by omega) hids hrow

/-- The differ's rows. -/
def RowsOk (B : Nat) (w : World) (rv : Value) : Prop := rv = .slice none 0 0 ∨ ∃ R len ws, rv = .slice (some ⟨R, 0, none⟩) len ws.length ∧ len ≤ ws.length ∧ ws.length ≤ 1000000 ∧ B ≤ R ∧ w.heap[R]? = some (rowU ws) ∧ AllW ws
set_option maxRecDepth 100000 in
theorem grow_any (B : Nat) (rv : Value) (n : Nat) (w : World) (hn0 : 0 < n) (hn : n ≤ 1000000) (hr : RowsOk B w rv) (hB : B ≤ w.heap.size) :
    Calls Yba.prog 18 #[rv, .int .i64 n] w fun e w' => ∃ R ws, e = .returned (.slice (some ⟨R, 0, none⟩) n ws.length) ∧ n ≤ ws.length ∧ ws.length ≤ 1000000 ∧ B ≤ R ∧ w'.heap[R]? = some (rowU ws) ∧ AllW ws ∧ Below w.heap.size w w' ∧ (R = w.heap.size ∨ w.heap[R]? = some (rowU ws)) := by
  have hmk := make_words n hn
  have hnew : (w.alloc (rowU (List.replicate n 0))).heap[w.heap.size]? = some (rowU (List.replicate n 0)) := heap_alloc_new _ _
  have hz : AllW (List.replicate n 0) := fun x hx => by rw [(List.mem_replicate.1 hx).2]; decide
  rcases hr with rfl | ⟨R, len, ws, rfl, hl, hwl, hBR, hR, hlt⟩
  · go_enter Yba.func18, Yba.ntmps18
    go_wp2_with fail
    go_ret
    exact ⟨w.heap.size, List.replicate n 0, by rw [List.length_replicate]; rfl, by simp, by simp; omega, hB, hnew, hz, (Below.refl _ _).alloc (Nat.le_refl _) _, .inl rfl⟩
  · by_cases hc : ws.length < n
    · go_enter Yba.func18, Yba.ntmps18
      go_wp2_with fail
      go_ret
      exact ⟨w.heap.size, List.replicate n 0, by rw [List.length_replicate]; rfl, by simp, by simp; omega, hB, hnew, hz, (Below.refl _ _).alloc (Nat.le_refl _) _, .inl rfl⟩
    · have hc' : n ≤ ws.length := by omega
      go_enter Yba.func18, Yba.ntmps18
      go_wp2_with fail
      go_ret
      exact ⟨R, ws, rfl, hc', hwl, hBR, hR, hlt, Below.refl _ _, .inr hR⟩
end Go.Proofs.Ybulkdwba.lawB

/-
  THE PROOF OF 'Rows.LawS6136BShortestSaid' ('example.com/triway/triway.LawS6136BShortest'): the frame after the guide's template (howto/template/XProofs.lean) and proof-skeleton.mjs, at this function's number and types; the walk lies in YbulkdwbaBLaw.lean.
-/
import Derived.Test.YbulkdwbaBLaw
import Derived.WalkKit
import Derived.ProofKit
import Derived.OpenShut
import Derived.ChangeOld
import Derived.Below
import Derived.Deep.Slices
import Derived.Deep.Grids
namespace Go.Proofs.Ybulkdwba.lawB
open Go.ChangeShapes Go.WideShapes Go.ChangeAt Go.RowKit Go.Deep
set_option linter.unusedVariables false

theorem own : ownKnob Yba.prog.godebug = none := by kernel_rfl
theorem laidOut : laidOutB Yba.prog = true := by kernel_rfl
theorem cells26 : Yba.prog.cellsOf 26 = 1 := by kernel_rfl
theorem cells4 : Yba.prog.cellsOf 4 = 1 := by kernel_rfl

/-- A slice of small numbers that came in. -/
theorem open_a {H : Type} {enc : TypeId × Value → H} {W : World} {base : Nat} {spare : Nat → Bool} {held : Bool} {sa : Option Addr} {len cap : Nat} {x : DataW H × List MemPlace} {fuel : Nat}
    (h : DataW.trod enc Yba.prog W base spare held fuel 22 [.slice sa len cap] = some x) : InA W sa len ∧ len ≤ maxLen := by
  rcases open_ints Yba.underlying22 Yba.underlying26 cells26 h with ⟨hcs, _⟩ | ⟨a, l, c, zs, hcs, _, hl, hm, hz, _, hcell, hwz⟩
  · simp at hcs
    obtain ⟨rfl, rfl, rfl⟩ := hcs
    exact ⟨fun h => absurd h (by omega), Nat.zero_le _⟩
  · simp at hcs
    obtain ⟨rfl, rfl, rfl⟩ := hcs
    have hle : len ≤ zs.length := by rw [hz]; split <;> omega
    refine ⟨fun hp => ?_, Nat.le_trans hl hm⟩
    obtain ⟨b, off, rfl, hc⟩ := ints_at hcell (by omega)
    refine ⟨b, off, rfl, World.block_lt_of_cell? W _ (hc 0 (by omega)), fun j hj => ⟨_, hc j (by omega), ?_⟩⟩
    have hmem : zs.getD j 0 ∈ zs := by
      rw [List.getD_eq_getElem?_getD, List.getElem?_eq_getElem (show j < zs.length by omega)]; simp
    have := hwz _ hmem
    simp [Lit.wf, IntKind.min, IntKind.max, IntKind.signed, IntKind.bits] at this
    simp only [List.getD_eq_getElem?_getD] at this ⊢
    omega
/-- A slice of booleans that came in. -/
theorem open_b {H : Type} {enc : TypeId × Value → H} {W : World} {base : Nat} {held : Bool} {sa : Option Addr} {len cap : Nat} {x : DataW H × List MemPlace} {fuel : Nat}
    (h : DataW.trod enc Yba.prog W base (fun _ => true) held fuel 24 [.slice sa len cap] = some x) : InB W sa len ∧ len ≤ maxLen := by
  rcases open_bools Yba.underlying24 Yba.underlying4 cells4 h with ⟨hcs, _⟩ | ⟨a, l, c, B, hcs, _, hl, hm, _, hcell⟩
  · simp at hcs
    obtain ⟨rfl, rfl, rfl⟩ := hcs
    exact ⟨fun h => absurd h (by omega), Nat.zero_le _⟩
  · simp at hcs
    obtain ⟨rfl, rfl, rfl⟩ := hcs
    refine ⟨fun hp => ?_, Nat.le_trans hl hm⟩
    obtain ⟨b, off, spot⟩ := a
    have h00 := hcell 0 (by omega)
    have hspot : spot = none := by simpa [Addr.add] using World.cell?_spot h00
    subst hspot
    refine ⟨b, off, rfl, ?_, fun j hj => ⟨B j, ?_⟩⟩
    · have := World.block_lt_of_cell? W _ h00
      simpa [Addr.add] using this
    · have := hcell j (by omega)
      rw [add_plain] at this
      exact this
theorem u64wf {n : Int} (h : (Lit.int .u64 n).wf = true) : 0 ≤ n := by
  simp [Lit.wf, IntKind.min, IntKind.max, IntKind.signed, IntKind.bits] at h; omega
theorem u8wf {n : Int} (h : (Lit.int .u8 n).wf = true) : 0 ≤ n ∧ n < 256 := by
  simp [Lit.wf, IntKind.min, IntKind.max, IntKind.signed, IntKind.bits] at h; omega

set_option maxRecDepth 100000 in
theorem lifted (os : Os) (started : os.Started) (H : Type) (enc : TypeId × Value → H) :
    ReturnsInHanded {} Yba.checked os 3 .any (Rows.lawS6136BShortestSpec.pre6 enc Yba.prog Yba.f3 Rows.lawS6136BShortestRow.domain false) (Rows.lawS6136BShortestSpec.post enc Yba.prog Yba.f3 false true false false) := by
  refine returnsInHanded_of_change (C := Yba.checked) own started (by kernel_rfl) Yba.func3
    (ChangeSpec.witness6 (enc := enc) (C := Yba.checked) false ⟨#[], #[.slice none 0 0, .slice none 0 0, .int .u8 0, .int .u64 0, .int .u64 0, .int .u64 0, .int .u64 0, .int .u64 0, .slice none 0 0, .slice none 0 0], []⟩ 8 (by kernel_rfl) (by kernel_rfl) (by kernel_rfl) (by kernel_rfl)) ?_
  intro W base args ds gs before hval0 hW hcnd _
  have hval : ∀ (j : Nat) t v, Yba.f3.params[j]? = some t → args[j]? = some v → Value.okWide Yba.prog W .any base t v := hval0
  have hW' := hW
  obtain ⟨p, q, hA0, hV, rfl, hfz, hnd⟩ := hW
  have hA : DataW.TrodAll enc Yba.prog W 0 (fun _ => true) true Yba.f3.params.toList args.toList ds p := hA0
  rw [Yba.params3] at hA hval
  obtain ⟨v0, vs0, d0, ds0, p0, q0, hargs, rfl, rfl, h0, r0⟩ := trodAll_cons hA
  obtain ⟨v1, vs1, d1, ds1, p1, q1, rfl, rfl, rfl, h1, r1⟩ := trodAll_cons r0
  obtain ⟨v2, vs2, d2, ds2, p2, q2, rfl, rfl, rfl, h2, r2⟩ := trodAll_cons r1
  obtain ⟨v3, vs3, d3, ds3, p3, q3, rfl, rfl, rfl, h3, r3⟩ := trodAll_cons r2
  obtain ⟨v4, vs4, d4, ds4, p4, q4, rfl, rfl, rfl, h4, r4⟩ := trodAll_cons r3
  obtain ⟨v5, vs5, d5, ds5, p5, q5, rfl, rfl, rfl, h5, r5⟩ := trodAll_cons r4
  obtain ⟨v6, vs6, d6, ds6, p6, q6, rfl, rfl, rfl, h6, r6⟩ := trodAll_cons r5
  obtain ⟨v7, vs7, d7, ds7, p7, q7, rfl, rfl, rfl, h7, r7⟩ := trodAll_cons r6
  obtain ⟨v8, vs8, d8, ds8, p8, q8, rfl, rfl, rfl, h8, r8⟩ := trodAll_cons r7
  obtain ⟨v9, vs9, d9, ds9, p9, q9, rfl, rfl, rfl, h9, r9⟩ := trodAll_cons r8
  obtain ⟨rfl, rfl, rfl⟩ := trodAll_nil r9
  obtain rfl : args = #[v0, v1, v2, v3, v4, v5, v6, v7, v8, v9] := by cases args; simp_all
  obtain ⟨rfl, rfl⟩ := trodVars_none hV
  obtain ⟨a0, len0, cap0, rfl⟩ := okWide_slice Yba.underlying22 (hval 0 22 v0 rfl rfl)
  obtain ⟨a1, len1, cap1, rfl⟩ := okWide_slice Yba.underlying22 (hval 1 22 v1 rfl rfl)
  obtain ⟨a8, len8, cap8, rfl⟩ := okWide_slice Yba.underlying24 (hval 8 24 v8 rfl rfl)
  obtain ⟨a9, len9, cap9, rfl⟩ := okWide_slice Yba.underlying24 (hval 9 24 v9 rfl rfl)
  have k0 := h0
  have k1 := h1
  have k8 := h8
  have k9 := h9
  obtain ⟨n2, rfl, rfl, rfl, x2⟩ := open_int Yba.underlying5 (hval 2 5 v2 rfl rfl) h2
  obtain ⟨n3, rfl, rfl, rfl, x3⟩ := open_int Yba.underlying23 (hval 3 23 v3 rfl rfl) h3
  obtain ⟨n4, rfl, rfl, rfl, x4⟩ := open_int Yba.underlying23 (hval 4 23 v4 rfl rfl) h4
  obtain ⟨n5, rfl, rfl, rfl, x5⟩ := open_int Yba.underlying23 (hval 5 23 v5 rfl rfl) h5
  obtain ⟨n6, rfl, rfl, rfl, x6⟩ := open_int Yba.underlying23 (hval 6 23 v6 rfl rfl) h6
  obtain ⟨n7, rfl, rfl, rfl, x7⟩ := open_int Yba.underlying23 (hval 7 23 v7 rfl rfl) h7
  have lt0 : ∀ x ∈ p0, x.block < W.heap.size := by obtain ⟨m, hm⟩ := k0; exact DataW.trod_lt m _ _ _ hm
  have lt1 : ∀ x ∈ p1, x.block < W.heap.size := by obtain ⟨m, hm⟩ := k1; exact DataW.trod_lt m _ _ _ hm
  have lt8 : ∀ x ∈ p8, x.block < W.heap.size := by obtain ⟨m, hm⟩ := k8; exact DataW.trod_lt m _ _ _ hm
  have lt9 : ∀ x ∈ p9, x.block < W.heap.size := by obtain ⟨m, hm⟩ := k9; exact DataW.trod_lt m _ _ _ hm
  obtain ⟨w0, z0⟩ : InA W a0 len0 ∧ len0 ≤ maxLen := by
    obtain ⟨fuel, hf⟩ := h0
    exact open_a (by simpa [Value.cells] using hf)
  obtain ⟨w1, z1⟩ : InA W a1 len1 ∧ len1 ≤ maxLen := by
    obtain ⟨fuel, hf⟩ := h1
    exact open_a (by simpa [Value.cells] using hf)
  obtain ⟨w8, z8⟩ : InB W a8 len8 ∧ len8 ≤ maxLen := by
    obtain ⟨fuel, hf⟩ := h8
    exact open_b (by simpa [Value.cells] using hf)
  obtain ⟨w9, z9⟩ : InB W a9 len9 ∧ len9 ≤ maxLen := by
    obtain ⟨fuel, hf⟩ := h9
    exact open_b (by simpa [Value.cells] using hf)
  clear hA0 hval0
  refine (law_any a0 a1 a8 a9 len0 cap0 len1 cap1 len8 cap8 len9 cap9 n2 n3 n4 n5 n6 n7 W w0 w1 w8 w9 z0 z1 z8 z9 (u8wf x2).1 (u8wf x2).2 (u64wf x3) (u64wf x4) (u64wf x5) (u64wf x6) (u64wf x7)).mono fun e W' ⟨he, bel⟩ => ?_
  subst he
  exact ⟨_, rfl, _, _, _, [], _, [], hW', trodAll_mk1 (shut_bool Yba.underlying4 _), (trodAll_cons_mk (Below.trod laidOut (by kernel_rfl) (of_decide_eq_true (by kernel_rfl)) k0 bel lt0) (trodAll_cons_mk (Below.trod laidOut (by kernel_rfl) (of_decide_eq_true (by kernel_rfl)) k1 bel lt1) (trodAll_cons_mk (shut_int Yba.underlying5 x2) (trodAll_cons_mk (shut_int Yba.underlying23 x3) (trodAll_cons_mk (shut_int Yba.underlying23 x4) (trodAll_cons_mk (shut_int Yba.underlying23 x5) (trodAll_cons_mk (shut_int Yba.underlying23 x6) (trodAll_cons_mk (shut_int Yba.underlying23 x7) (trodAll_cons_mk (Below.trod laidOut (by kernel_rfl) (of_decide_eq_true (by kernel_rfl)) k8 bel lt8) (trodAll_cons_mk (Below.trod laidOut (by kernel_rfl) (of_decide_eq_true (by kernel_rfl)) k9 bel lt9) trodAll_mk0)))))))))), rfl, bel.frame _, fun h => by cases h⟩

theorem over : Rows.lawS6136BShortestRow.holds Yba.pinned (OpenSpec.ofChange Rows.lawS6136BShortestSpec) :=
  OpenClaim.holds_of_wide 3 Yba.f3 rfl rfl rfl rfl rfl rfl rfl ⟨rfl, rfl, rfl, rfl, rfl⟩ rfl rfl rfl rfl rfl (by kernel_rfl) Yba.func3 (by kernel_rfl)
    (of_decide_eq_true (by kernel_rfl)) (by unfold Func.isWrapper; first | (rw [if_pos (by decide +kernel)]; kernel_rfl) | (rw [if_neg (by decide +kernel)]; exact ⟨rfl, rfl⟩))
    (fun os started H enc _ => lifted os started H enc)

/-- ████ THE STATEMENT ████ -/
theorem proved : Rows.LawS6136BShortestSaid := over
#print axioms proved
end Go.Proofs.Ybulkdwba.lawB

/-
  THE PROOF OF 'Rows.LawS6136CWholeSaid' ('example.com/triway/triway.LawS6136CWhole'): the frame after the guide's template (howto/template/XProofs.lean) and proof-skeleton.mjs, at this function's number and types; the walks lie in YbulkdwbaCLaw.lean and YbulkdwbaCLawNil.lean.
-/
import Derived.Test.YbulkdwbaCLaw
import Derived.Test.YbulkdwbaCLawNil
import Derived.WalkKit
import Derived.ProofKit
import Derived.OpenShut
import Derived.ChangeOld
import Derived.Below
import Derived.Deep.Slices
namespace Go.Proofs.Ybulkdwba.lawC
open Go.ChangeShapes Go.WideShapes Go.ChangeAt Go.RowKit Go.Deep
set_option linter.unusedVariables false

theorem own : ownKnob Yba.prog.godebug = none := by kernel_rfl
theorem laidOut : laidOutB Yba.prog = true := by kernel_rfl
theorem cells46 : Yba.prog.cellsOf 46 = 7 := by kernel_rfl
theorem cells3 : Yba.prog.cellsOf 3 = 1 := by kernel_rfl
theorem cells4t : Yba.prog.cellsOf 4 = 1 := by kernel_rfl

/-- A change that came in, read as data: its seven cells. -/
theorem open_rec {H : Type} {enc : TypeId × Value → H} {W : World} {base : Nat} {spare : Nat → Bool} {held : Bool} {fuel : Nat} {cs : List Value} {x : DataW H × List MemPlace}
    (h : DataW.trod enc Yba.prog W base spare held fuel 46 cs = some x) :
    ∃ r : Rec, cs = [.bool r.cf, .int .i64 r.a1, .int .i64 r.a2, .int .i64 r.a3, .int .i64 r.a4, .int .i64 r.a5, .int .i64 r.a6] := by
  obtain ⟨xs, n, _, _, hl, hlen, hf⟩ := DataW.trod_struct Yba.underlying46 h
  rw [cells46] at hl
  have hxs : ∀ i, i < 7 → ∃ y, xs[i]? = some y := fun i hi => ⟨_, List.getElem?_eq_getElem (by rw [hlen]; exact hi)⟩
  match cs, hl with
  | [c0, c1, c2, c3, c4, c5, c6], _ =>
    obtain ⟨y0, e0⟩ := hxs 0 (by omega)
    obtain ⟨y1, e1⟩ := hxs 1 (by omega)
    obtain ⟨y2, e2⟩ := hxs 2 (by omega)
    obtain ⟨y3, e3⟩ := hxs 3 (by omega)
    obtain ⟨y4, e4⟩ := hxs 4 (by omega)
    obtain ⟨y5, e5⟩ := hxs 5 (by omega)
    obtain ⟨y6, e6⟩ := hxs 6 (by omega)
    have g0 : DataW.trod enc Yba.prog W base spare held n 4 (([c0, c1, c2, c3, c4, c5, c6].drop 0).take (Yba.prog.cellsOf 4)) = some y0 := (hf 0 _ rfl).trans e0
    have g1 : DataW.trod enc Yba.prog W base spare held n 3 (([c0, c1, c2, c3, c4, c5, c6].drop 1).take (Yba.prog.cellsOf 3)) = some y1 := (hf 1 _ rfl).trans e1
    have g2 : DataW.trod enc Yba.prog W base spare held n 3 (([c0, c1, c2, c3, c4, c5, c6].drop 2).take (Yba.prog.cellsOf 3)) = some y2 := (hf 2 _ rfl).trans e2
    have g3 : DataW.trod enc Yba.prog W base spare held n 3 (([c0, c1, c2, c3, c4, c5, c6].drop 3).take (Yba.prog.cellsOf 3)) = some y3 := (hf 3 _ rfl).trans e3
    have g4 : DataW.trod enc Yba.prog W base spare held n 3 (([c0, c1, c2, c3, c4, c5, c6].drop 4).take (Yba.prog.cellsOf 3)) = some y4 := (hf 4 _ rfl).trans e4
    have g5 : DataW.trod enc Yba.prog W base spare held n 3 (([c0, c1, c2, c3, c4, c5, c6].drop 5).take (Yba.prog.cellsOf 3)) = some y5 := (hf 5 _ rfl).trans e5
    have g6 : DataW.trod enc Yba.prog W base spare held n 3 (([c0, c1, c2, c3, c4, c5, c6].drop 6).take (Yba.prog.cellsOf 3)) = some y6 := (hf 6 _ rfl).trans e6
    rw [cells4t] at g0
    rw [cells3] at g1 g2 g3 g4 g5 g6
    obtain ⟨b, q0, _⟩ := DataW.trod_bool Yba.underlying4 (cs := [c0]) g0
    obtain ⟨n1, q1, _⟩ := DataW.trod_int Yba.underlying3 (cs := [c1]) g1
    obtain ⟨n2, q2, _⟩ := DataW.trod_int Yba.underlying3 (cs := [c2]) g2
    obtain ⟨n3, q3, _⟩ := DataW.trod_int Yba.underlying3 (cs := [c3]) g3
    obtain ⟨n4, q4, _⟩ := DataW.trod_int Yba.underlying3 (cs := [c4]) g4
    obtain ⟨n5, q5, _⟩ := DataW.trod_int Yba.underlying3 (cs := [c5]) g5
    obtain ⟨n6, q6, _⟩ := DataW.trod_int Yba.underlying3 (cs := [c6]) g6
    simp only [List.cons.injEq, and_true] at q0 q1 q2 q3 q4 q5 q6
    exact ⟨⟨b, n1, n2, n3, n4, n5, n6⟩, by rw [q0, q1, q2, q3, q4, q5, q6]⟩


/-- A slice of changes that came in: nil, or a row of them. -/
theorem open_recs {H : Type} {enc : TypeId × Value → H} {W : World} {base : Nat} {spare : Nat → Bool} {held : Bool} {sc : Option Addr} {n cap : Nat} {x : DataW H × List MemPlace} {fuel : Nat}
    (h : DataW.trod enc Yba.prog W base spare held fuel 39 [.slice sc n cap] = some x) :
    (sc = none ∧ n = 0 ∧ cap = 0) ∨ ∃ a r, sc = some a ∧ (0 < n → ∃ b off, a = ⟨b, off, none⟩ ∧ InC W b off n r) := by
  rcases open_slice Yba.underlying39 h with ⟨hcs, _⟩ | ⟨a, len, cap', m, k, D, Pl, hcs, hb, hl, hm, hme, _, hel⟩
  · simp at hcs; exact .inl hcs
  · simp at hcs
    obtain ⟨rfl, rfl, rfl⟩ := hcs
    right
    have hle : n ≤ m := by rw [hme]; split <;> omega
    have hcell : ∀ i, i < n → ∃ r : Rec, ∀ f, f < 7 → W.cell? ((a.add (i * 7)).add f) = [Value.bool r.cf, .int .i64 r.a1, .int .i64 r.a2, .int .i64 r.a3, .int .i64 r.a4, .int .i64 r.a5, .int .i64 r.a6][f]? := by
      intro i hi
      obtain ⟨cs', h1, h2⟩ := hel i (by omega)
      rw [cells46] at h1
      obtain ⟨r, rfl⟩ := open_rec h2
      exact ⟨r, (World.cells?_some h1).2.2⟩
    have hnon : ∃ r : Nat → Rec, ∀ i, i < n → ∀ f, f < 7 → W.cell? ((a.add (i * 7)).add f) = [Value.bool (r i).cf, .int .i64 (r i).a1, .int .i64 (r i).a2, .int .i64 (r i).a3, .int .i64 (r i).a4, .int .i64 (r i).a5, .int .i64 (r i).a6][f]? := by
      refine ⟨fun i => if hi : i < n then Classical.choose (hcell i hi) else ⟨false, 0, 0, 0, 0, 0, 0⟩, fun i hi => ?_⟩
      simp only [dif_pos hi]
      exact Classical.choose_spec (hcell i hi)
    obtain ⟨r, hr⟩ := hnon
    refine ⟨a, r, rfl, fun hp => ?_⟩
    obtain ⟨b, off, spot⟩ := a
    have h00 := hr 0 hp 0 (by omega)
    have hspot : spot = none := by simpa [Addr.add] using World.cell?_spot h00
    subst hspot
    refine ⟨b, off, rfl, ?_, fun i hi => ?_⟩
    · have := World.block_lt_of_cell? W _ h00
      simpa [Addr.add] using this
    · have e : ∀ f, f < 7 → W.cell? ⟨b, off + i * 7 + f, none⟩ = [Value.bool (r i).cf, .int .i64 (r i).a1, .int .i64 (r i).a2, .int .i64 (r i).a3, .int .i64 (r i).a4, .int .i64 (r i).a5, .int .i64 (r i).a6][f]? := by
        intro f hf
        rw [← hr i hi f hf, add_plain, add_plain]
      exact ⟨e 0 (by omega), e 1 (by omega), e 2 (by omega), e 3 (by omega), e 4 (by omega), e 5 (by omega), e 6 (by omega)⟩

/-- A slice of numbers that came in. -/
theorem open_in {H : Type} {enc : TypeId × Value → H} {W : World} {base : Nat} {spare : Nat → Bool} {held : Bool} {sa : Option Addr} {len cap : Nat} {x : DataW H × List MemPlace} {fuel : Nat}
    (h : DataW.trod enc Yba.prog W base spare held fuel 25 [.slice sa len cap] = some x) : ∃ zs, InI W sa len cap zs := by
  rcases open_ints Yba.underlying25 Yba.underlying3 cells3 h with ⟨hcs, _⟩ | ⟨a, l, c, zs, hcs, _, hl, hm, hz, _, hcell, hwz⟩
  · simp at hcs
    obtain ⟨rfl, rfl, rfl⟩ := hcs
    exact ⟨[], Nat.zero_le _, fun _ => ⟨rfl, rfl⟩, fun h => absurd h (by omega)⟩
  · simp at hcs
    obtain ⟨rfl, rfl, rfl⟩ := hcs
    have hle : len ≤ zs.length := by rw [hz]; split <;> omega
    refine ⟨zs, hle, fun h => by simp at h, fun hp => ?_⟩
    obtain ⟨b, off, rfl, hc⟩ := ints_at hcell (by omega)
    exact ⟨b, off, rfl, World.block_lt_of_cell? W _ (hc 0 (by omega)), fun j hj => by simpa using hc j (by omega)⟩

/-- THE WALK, whatever the input. -/
theorem walk (sa sb sc : Option Addr) (la ca lb cb n cap : Nat) (za zb : List Int) (w : World) (ha : InI w sa la ca za) (hb : InI w sb lb cb zb)
    (hc : (sc = none ∧ n = 0 ∧ cap = 0) ∨ ∃ a r, sc = some a ∧ (0 < n → ∃ b off, a = ⟨b, off, none⟩ ∧ InC w b off n r)) :
    Calls Yba.prog 4 #[.slice sa la ca, .slice sb lb cb, .slice sc n cap] w fun e w' => e = .returned (.bool true) ∧ Below w.heap.size w w' := by
  by_cases h1 : la ≤ 16384
  · by_cases h2 : lb ≤ 16384
    · by_cases h3 : n ≤ 1024
      · rcases hc with ⟨rfl, rfl, rfl⟩ | ⟨a, r, rfl, hc⟩
        · exact law_nil sa sb la ca lb cb za zb w h1 h2 ha hb
        · exact law_some sa sb la ca lb cb za zb a n cap r w h1 h2 h3 ha hb hc
      · exact law_big3 sa sb sc la ca lb cb n cap w (by omega) (by omega) (by omega)
    · exact law_big2 sa sb sc la ca lb cb n cap w (by omega) (by omega)
  · exact law_big1 sa sb sc la ca lb cb n cap w (by omega)

set_option maxRecDepth 100000 in
theorem lifted (os : Os) (started : os.Started) (H : Type) (enc : TypeId × Value → H) :
    ReturnsInHanded {} Yba.checked os 4 .any (Rows.lawS6136CWholeSpec.pre6 enc Yba.prog Yba.f4 Rows.lawS6136CWholeRow.domain false) (Rows.lawS6136CWholeSpec.post enc Yba.prog Yba.f4 false true false false) := by
  refine returnsInHanded_of_change (C := Yba.checked) own started (by kernel_rfl) Yba.func4
    (ChangeSpec.witness6 (enc := enc) (C := Yba.checked) false ⟨#[], #[.slice none 0 0, .slice none 0 0, .slice none 0 0], []⟩ 8 (by kernel_rfl) (by kernel_rfl) (by kernel_rfl) (by kernel_rfl)) ?_
  intro W base args ds gs before hval0 hW hcnd _
  have hval : ∀ (j : Nat) t v, Yba.f4.params[j]? = some t → args[j]? = some v → Value.okWide Yba.prog W .any base t v := hval0
  have hW' := hW
  obtain ⟨p, q, hA0, hV, rfl, hfz, hnd⟩ := hW
  have hA : DataW.TrodAll enc Yba.prog W 0 (fun _ => true) true Yba.f4.params.toList args.toList ds p := hA0
  rw [Yba.params4] at hA hval
  obtain ⟨v0, vs0, d0, ds0, p0, q0, hargs, rfl, rfl, h0, r0⟩ := trodAll_cons hA
  obtain ⟨v1, vs1, d1, ds1, p1, q1, rfl, rfl, rfl, h1, r1⟩ := trodAll_cons r0
  obtain ⟨v2, vs2, d2, ds2, p2, q2, rfl, rfl, rfl, h2, r2⟩ := trodAll_cons r1
  obtain ⟨rfl, rfl, rfl⟩ := trodAll_nil r2
  obtain rfl : args = #[v0, v1, v2] := by cases args; simp_all
  obtain ⟨rfl, rfl⟩ := trodVars_none hV
  obtain ⟨a0, len0, cap0, rfl⟩ := okWide_slice Yba.underlying25 (hval 0 25 v0 rfl rfl)
  obtain ⟨a1, len1, cap1, rfl⟩ := okWide_slice Yba.underlying25 (hval 1 25 v1 rfl rfl)
  obtain ⟨a2, len2, cap2, rfl⟩ := okWide_slice Yba.underlying39 (hval 2 39 v2 rfl rfl)
  have k0 := h0
  have k1 := h1
  have k2 := h2
  have lt0 : ∀ x ∈ p0, x.block < W.heap.size := by obtain ⟨m, hm⟩ := k0; exact DataW.trod_lt m _ _ _ hm
  have lt1 : ∀ x ∈ p1, x.block < W.heap.size := by obtain ⟨m, hm⟩ := k1; exact DataW.trod_lt m _ _ _ hm
  have lt2 : ∀ x ∈ p2, x.block < W.heap.size := by obtain ⟨m, hm⟩ := k2; exact DataW.trod_lt m _ _ _ hm
  obtain ⟨z0, w0⟩ : ∃ zs, InI W a0 len0 cap0 zs := by
    obtain ⟨fuel, hf⟩ := h0
    exact open_in (by simpa [Value.cells] using hf)
  obtain ⟨z1, w1⟩ : ∃ zs, InI W a1 len1 cap1 zs := by
    obtain ⟨fuel, hf⟩ := h1
    exact open_in (by simpa [Value.cells] using hf)
  have w2 : (a2 = none ∧ len2 = 0 ∧ cap2 = 0) ∨ ∃ a r, a2 = some a ∧ (0 < len2 → ∃ b off, a = ⟨b, off, none⟩ ∧ InC W b off len2 r) := by
    obtain ⟨fuel, hf⟩ := h2
    exact open_recs (by simpa [Value.cells] using hf)
  clear hA0 hval0
  refine (walk a0 a1 a2 len0 cap0 len1 cap1 len2 cap2 z0 z1 W w0 w1 w2).mono fun e W' ⟨he, bel⟩ => ?_
  subst he
  exact ⟨_, rfl, _, _, _, [], _, [], hW', trodAll_mk1 (shut_bool Yba.underlying4 _), (trodAll_cons_mk (Below.trod laidOut (by kernel_rfl) (of_decide_eq_true (by kernel_rfl)) k0 bel lt0) (trodAll_cons_mk (Below.trod laidOut (by kernel_rfl) (of_decide_eq_true (by kernel_rfl)) k1 bel lt1) (trodAll_cons_mk (Below.trod laidOut (by kernel_rfl) (of_decide_eq_true (by kernel_rfl)) k2 bel lt2) trodAll_mk0))), rfl, bel.frame _, fun h => by cases h⟩

theorem over : Rows.lawS6136CWholeRow.holds Yba.pinned (OpenSpec.ofChange Rows.lawS6136CWholeSpec) :=
  OpenClaim.holds_of_wide 4 Yba.f4 rfl rfl rfl rfl rfl rfl rfl ⟨rfl, rfl, rfl, rfl, rfl⟩ rfl rfl rfl rfl rfl (by kernel_rfl) Yba.func4 (by kernel_rfl)
    (of_decide_eq_true (by kernel_rfl)) (by unfold Func.isWrapper; first | (rw [if_pos (by decide +kernel)]; kernel_rfl) | (rw [if_neg (by decide +kernel)]; exact ⟨rfl, rfl⟩))
    (fun os started H enc _ => lifted os started H enc)

/-- ████ THE STATEMENT ████ -/
theorem proved : Rows.LawS6136CWholeSaid := over
#print axioms proved
end Go.Proofs.Ybulkdwba.lawC

/-
  THE PROOF OF 'Rows.LawS6139BWholeSaid' ('example.com/lamina/lamina/pkg/image.LawS6139BWhole'): the frame after the guide's template (howto/template/XProofs.lean) and proof-skeleton.mjs, at this function's number and types, by the builder that hands over the row's own reach; the walk lies in YbulkdwcqBLaw.lean.
-/
import Derived.Test.YbulkdwcqBLaw
import Derived.OpenShut
import Derived.ShutString
import Derived.ChangeOld
import Derived.SliceStrings
import Derived.SizedLaws
namespace Go.Proofs.Ybulkdwcq.lawB
open Go.ChangeShapes Go.WideShapes Go.ChangeAt Go.RowKit
open Go.ChangeMaps (open_string shut_string)
set_option linter.unusedVariables false

theorem own : ownKnob Yba.prog.godebug = none := by kernel_rfl
theorem laidOut : laidOutB Yba.prog = true := by kernel_rfl
theorem cells24 : Yba.prog.cellsOf 24 = 11 := by kernel_rfl
theorem cells9 : Yba.prog.cellsOf 9 = 1 := by kernel_rfl
theorem cells22 : Yba.prog.cellsOf 22 = 1 := by kernel_rfl
theorem cells4 : Yba.prog.cellsOf 4 = 1 := by kernel_rfl
theorem bytes9 : Yba.prog.bytesOf 9 = 16 := by kernel_rfl

section
variable {H : Type} {enc : TypeId × Value → H} {W : World} {base : Nat} {spare : Nat → Bool} {held : Bool} {fuel : Nat}

/-- A slice of strings that came in: what the walk is told of it, and its bound by the row's own reach. -/
theorem open_ss {c : Value} {y : DataW H × List MemPlace} (h : DataW.trod enc Yba.prog W base spare held fuel 22 [c] = some y) :
    ∃ sa cap ss, c = .slice sa (List.length ss) cap ∧ InS W sa cap ss ∧ ((∀ n ∈ y.1.weights Yba.prog 22, n ≤ reachBytes) → ss.length ≤ 8796093022208) := by
  rcases open_strings Yba.underlying22 Yba.underlying9 cells9 h with ⟨hcs, _⟩ | ⟨a, len, cap, ss, hcs, _, hl, hm, hz, hx, hcell, hws⟩
  · simp at hcs
    exact ⟨none, 0, [], by simpa using hcs, ⟨fun _ => ⟨rfl, rfl⟩, fun h => by simp at h, fun s hs => by simp at hs⟩, fun _ => by simp⟩
  · simp at hcs
    have hle : len ≤ ss.length := by rw [hz]; split <;> omega
    have htl : (ss.take len).length = len := by simp; omega
    refine ⟨some a, cap, ss.take len, by rw [htl]; exact hcs, ⟨fun h => by simp at h, fun hp => ?_, fun s hs => hws s (List.mem_of_mem_take hs)⟩, fun hw => ?_⟩
    · rw [htl] at hp ⊢
      obtain ⟨b, off, spot⟩ := a
      have h00 := hcell 0 (by omega)
      have hspot : spot = none := by simpa [Addr.add] using World.cell?_spot h00
      subst hspot
      refine ⟨b, off, rfl, ?_, fun j hj => ?_⟩
      · have := World.block_lt_of_cell? W _ h00
        simpa [Addr.add] using this
      · have := hcell j (by omega)
        rw [add_plain] at this
        rw [this, List.getElem?_take, if_pos hj]
        simp [List.getD]
    · have := hw ((len + (ss.length - len)) * 16) (by rw [hx]; simp [DataW.weights, Yba.underlying22, bytes9, strs, Nat.min_eq_left hle])
      rw [htl]
      unfold reachBytes at this
      omega

/-- The argument, read as data: its eleven cells. -/
theorem open_arg {cs : List Value} {x : DataW H × List MemPlace} (h : DataW.trod enc Yba.prog W base spare held fuel 24 cs = some x) (hwt : ∀ n ∈ x.1.weights Yba.prog 24, n ≤ reachBytes) :
    ∃ a : Arg, cs = [.string a.user, .slice a.sP a.P.length a.cP, .slice a.sE a.E.length a.cE, .slice a.sN a.N.length a.cN, .slice a.sC a.C.length a.cC, .bool a.hc, .slice a.sT a.T.length a.cT, .slice a.sV a.V.length a.cV, .string a.wd, .slice a.sK a.K.length a.cK, .slice a.sL a.L.length a.cL] ∧ a.In W ∧
      a.P.length ≤ 8796093022208 ∧ a.E.length ≤ 8796093022208 ∧ a.N.length ≤ 8796093022208 ∧ a.C.length ≤ 8796093022208 ∧ a.T.length ≤ 8796093022208 ∧ a.V.length ≤ 8796093022208 ∧ a.K.length ≤ 8796093022208 ∧ a.L.length ≤ 8796093022208 := by
  obtain ⟨xs, n, _, hx, hl, hlen, hf⟩ := DataW.trod_struct Yba.underlying24 h
  rw [cells24] at hl
  have hxs : ∀ i, i < 11 → ∃ y, xs[i]? = some y := fun i hi => ⟨_, List.getElem?_eq_getElem (by rw [hlen]; exact hi)⟩
  have hwk : ∀ (k : Nat) (y : DataW H × List MemPlace), xs[k]? = some y → ([9, 22, 22, 22, 22, 4, 22, 22, 9, 22, 22] : List TypeId)[k]? = some 22 → ∀ m ∈ y.1.weights Yba.prog 22, m ≤ reachBytes := by
    intro k y hk ht m hm
    refine hwt m ?_
    rw [hx]
    have hmem := DataW.weights_mem_each (P := Yba.prog) (ts := [9, 22, 22, 22, 22, 4, 22, 22, 9, 22, 22]) (ds := xs.map (·.1)) (j := k) (t := 22) (d := y.1) ht (by simp [hk]) m hm
    simpa [DataW.weights, Yba.underlying24] using hmem
  match cs, hl with
  | [c0, c1, c2, c3, c4, c5, c6, c7, c8, c9, c10], _ =>
    obtain ⟨y0, e0⟩ := hxs 0 (by omega)
    obtain ⟨y1, e1⟩ := hxs 1 (by omega)
    obtain ⟨y2, e2⟩ := hxs 2 (by omega)
    obtain ⟨y3, e3⟩ := hxs 3 (by omega)
    obtain ⟨y4, e4⟩ := hxs 4 (by omega)
    obtain ⟨y5, e5⟩ := hxs 5 (by omega)
    obtain ⟨y6, e6⟩ := hxs 6 (by omega)
    obtain ⟨y7, e7⟩ := hxs 7 (by omega)
    obtain ⟨y8, e8⟩ := hxs 8 (by omega)
    obtain ⟨y9, e9⟩ := hxs 9 (by omega)
    obtain ⟨y10, e10⟩ := hxs 10 (by omega)
    have g0 : DataW.trod enc Yba.prog W base spare held n 9 (([c0, c1, c2, c3, c4, c5, c6, c7, c8, c9, c10].drop 0).take (Yba.prog.cellsOf 9)) = some y0 := (hf 0 _ rfl).trans e0
    have g1 : DataW.trod enc Yba.prog W base spare held n 22 (([c0, c1, c2, c3, c4, c5, c6, c7, c8, c9, c10].drop 1).take (Yba.prog.cellsOf 22)) = some y1 := (hf 1 _ rfl).trans e1
    have g2 : DataW.trod enc Yba.prog W base spare held n 22 (([c0, c1, c2, c3, c4, c5, c6, c7, c8, c9, c10].drop 2).take (Yba.prog.cellsOf 22)) = some y2 := (hf 2 _ rfl).trans e2
    have g3 : DataW.trod enc Yba.prog W base spare held n 22 (([c0, c1, c2, c3, c4, c5, c6, c7, c8, c9, c10].drop 3).take (Yba.prog.cellsOf 22)) = some y3 := (hf 3 _ rfl).trans e3
    have g4 : DataW.trod enc Yba.prog W base spare held n 22 (([c0, c1, c2, c3, c4, c5, c6, c7, c8, c9, c10].drop 4).take (Yba.prog.cellsOf 22)) = some y4 := (hf 4 _ rfl).trans e4
    have g5 : DataW.trod enc Yba.prog W base spare held n 4 (([c0, c1, c2, c3, c4, c5, c6, c7, c8, c9, c10].drop 5).take (Yba.prog.cellsOf 4)) = some y5 := (hf 5 _ rfl).trans e5
    have g6 : DataW.trod enc Yba.prog W base spare held n 22 (([c0, c1, c2, c3, c4, c5, c6, c7, c8, c9, c10].drop 6).take (Yba.prog.cellsOf 22)) = some y6 := (hf 6 _ rfl).trans e6
    have g7 : DataW.trod enc Yba.prog W base spare held n 22 (([c0, c1, c2, c3, c4, c5, c6, c7, c8, c9, c10].drop 7).take (Yba.prog.cellsOf 22)) = some y7 := (hf 7 _ rfl).trans e7
    have g8 : DataW.trod enc Yba.prog W base spare held n 9 (([c0, c1, c2, c3, c4, c5, c6, c7, c8, c9, c10].drop 8).take (Yba.prog.cellsOf 9)) = some y8 := (hf 8 _ rfl).trans e8
    have g9 : DataW.trod enc Yba.prog W base spare held n 22 (([c0, c1, c2, c3, c4, c5, c6, c7, c8, c9, c10].drop 9).take (Yba.prog.cellsOf 22)) = some y9 := (hf 9 _ rfl).trans e9
    have g10 : DataW.trod enc Yba.prog W base spare held n 22 (([c0, c1, c2, c3, c4, c5, c6, c7, c8, c9, c10].drop 10).take (Yba.prog.cellsOf 22)) = some y10 := (hf 10 _ rfl).trans e10
    rw [cells9] at g0 g8
    rw [cells22] at g1 g2 g3 g4 g6 g7 g9 g10
    rw [cells4] at g5
    replace g1 : DataW.trod enc Yba.prog W base spare held n 22 [c1] = some y1 := g1
    replace g2 : DataW.trod enc Yba.prog W base spare held n 22 [c2] = some y2 := g2
    replace g3 : DataW.trod enc Yba.prog W base spare held n 22 [c3] = some y3 := g3
    replace g4 : DataW.trod enc Yba.prog W base spare held n 22 [c4] = some y4 := g4
    replace g6 : DataW.trod enc Yba.prog W base spare held n 22 [c6] = some y6 := g6
    replace g7 : DataW.trod enc Yba.prog W base spare held n 22 [c7] = some y7 := g7
    replace g9 : DataW.trod enc Yba.prog W base spare held n 22 [c9] = some y9 := g9
    replace g10 : DataW.trod enc Yba.prog W base spare held n 22 [c10] = some y10 := g10
    obtain ⟨user, q0, _⟩ := DataW.trod_string Yba.underlying9 (cs := [c0]) g0
    obtain ⟨sP, cP, P, q1, i1, b1⟩ := open_ss g1
    obtain ⟨sE, cE, E, q2, i2, b2⟩ := open_ss g2
    obtain ⟨sN, cN, N, q3, i3, b3⟩ := open_ss g3
    obtain ⟨sC, cC, C, q4, i4, b4⟩ := open_ss g4
    obtain ⟨hc, q5, _⟩ := DataW.trod_bool Yba.underlying4 (cs := [c5]) g5
    obtain ⟨sT, cT, T, q6, i6, b6⟩ := open_ss g6
    obtain ⟨sV, cV, V, q7, i7, b7⟩ := open_ss g7
    obtain ⟨wd, q8, _⟩ := DataW.trod_string Yba.underlying9 (cs := [c8]) g8
    obtain ⟨sK, cK, K, q9, i9, b9⟩ := open_ss g9
    obtain ⟨sL, cL, L, q10, i10, b10⟩ := open_ss g10
    simp only [List.cons.injEq, and_true] at q0 q5 q8
    refine ⟨⟨user, wd, hc, sP, sE, sN, sC, sT, sV, sK, sL, cP, cE, cN, cC, cT, cV, cK, cL, P, E, N, C, T, V, K, L⟩, by rw [q0, q1, q2, q3, q4, q5, q6, q7, q8, q9, q10], ⟨i1, i2, i3, i4, i6, i7, i9, i10⟩, b1 (hwk 1 y1 e1 rfl), b2 (hwk 2 y2 e2 rfl), b3 (hwk 3 y3 e3 rfl), b4 (hwk 4 y4 e4 rfl), b6 (hwk 6 y6 e6 rfl), b7 (hwk 7 y7 e7 rfl), b9 (hwk 9 y9 e9 rfl), b10 (hwk 10 y10 e10 rfl)⟩
end

/-- THE WALK, whatever the input. -/
theorem walk (a : Arg) (dir : ByteArray) (w : World) (hi : a.In w) (b1 : a.P.length ≤ 8796093022208) (b2 : a.E.length ≤ 8796093022208) (b3 : a.N.length ≤ 8796093022208) (b4 : a.C.length ≤ 8796093022208) (b5 : a.T.length ≤ 8796093022208) (b6 : a.V.length ≤ 8796093022208) (b7 : a.K.length ≤ 8796093022208) (b8 : a.L.length ≤ 8796093022208) :
    Calls Yba.prog 3 #[.agg #[.string a.user, .slice a.sP a.P.length a.cP, .slice a.sE a.E.length a.cE, .slice a.sN a.N.length a.cN, .slice a.sC a.C.length a.cC, .bool a.hc, .slice a.sT a.T.length a.cT, .slice a.sV a.V.length a.cV, .string a.wd, .slice a.sK a.K.length a.cK, .slice a.sL a.L.length a.cL], .string dir] w fun e w' => e = .returned (.bool true) ∧ Below w.heap.size w w' := by
  by_cases h : (a.P.length : Int) + a.E.length + a.N.length + a.C.length + a.T.length + a.V.length + a.K.length + a.L.length ≤ 1048576
  · exact law_in a dir w ⟨by omega, by omega, by omega, by omega, by omega, by omega, by omega, by omega⟩ hi h
  · exact law_big a dir w b1 b2 b3 b4 b5 b6 b7 b8 (by omega)

set_option maxRecDepth 100000 in
theorem lifted (os : Os) (started : os.Started) (H : Type) (enc : TypeId × Value → H) :
    ReturnsInHanded {} Yba.checked os 3 .any (Rows.lawS6139BWholeSpec.pre6 enc Yba.prog Yba.f3 Rows.lawS6139BWholeRow.domain false) (Rows.lawS6139BWholeSpec.post enc Yba.prog Yba.f3 false true false false) := by
  refine returnsInHanded_of_change_sized (C := Yba.checked) own started (by kernel_rfl) Yba.func3
    (ChangeSpec.witness6 (enc := enc) (C := Yba.checked) false ⟨#[], #[.agg #[.string ByteArray.empty, .slice none 0 0, .slice none 0 0, .slice none 0 0, .slice none 0 0, .bool false, .slice none 0 0, .slice none 0 0, .string ByteArray.empty, .slice none 0 0, .slice none 0 0], .string ByteArray.empty], []⟩ 8 (by kernel_rfl) (by kernel_rfl) (by kernel_rfl) (by kernel_rfl)) ?_
  intro W base args ds gs before hval0 hW hcnd hsz0 _
  have hval : ∀ (j : Nat) t v, Yba.f3.params[j]? = some t → args[j]? = some v → Value.okWide Yba.prog W .any base t v := hval0
  have hW' := hW
  obtain ⟨p, q, hA0, hV, rfl, hfz, hnd⟩ := hW
  have hA : DataW.TrodAll enc Yba.prog W 0 (fun _ => true) true Yba.f3.params.toList args.toList ds p := hA0
  have hsz : (DataW.weightsEach Yba.prog (Yba.f3.params.toList ++ Rows.lawS6139BWholeSpec.plain.varTypes Yba.prog) (ds ++ gs)).all (· ≤ reachBytes) = true := hsz0
  rw [Yba.params3] at hA hval hsz
  obtain ⟨v0, vs0, d0, ds0, p0, q0, hargs, rfl, rfl, h0, r0⟩ := trodAll_cons hA
  obtain ⟨v1, vs1, d1, ds1, p1, q1, rfl, rfl, rfl, h1, r1⟩ := trodAll_cons r0
  obtain ⟨rfl, rfl, rfl⟩ := trodAll_nil r1
  obtain rfl : args = #[v0, v1] := by cases args; simp_all
  obtain ⟨rfl, rfl⟩ := trodVars_none hV
  obtain ⟨cs, rfl, hcsz⟩ := okWide_struct Yba.underlying24 (hval 0 24 v0 rfl rfl)
  obtain ⟨dir, rfl, rfl, rfl, w1⟩ := open_string Yba.underlying9 (hval 1 9 v1 rfl rfl) h1
  have k0 := h0
  have lt0 : ∀ x ∈ p0, x.block < W.heap.size := by obtain ⟨m, hm⟩ := k0; exact DataW.trod_lt m _ _ _ hm
  have hwt : ∀ n ∈ d0.weights Yba.prog 24, n ≤ reachBytes := by
    intro n hn
    have hmem := DataW.weights_mem_each (P := Yba.prog) (ts := [24, 9] ++ Rows.lawS6139BWholeSpec.plain.varTypes Yba.prog) (ds := [d0, .lit (.string dir.data.toList)] ++ []) (j := 0) (t := 24) (d := d0) rfl rfl n hn
    exact of_decide_eq_true (List.all_eq_true.1 hsz _ hmem)
  obtain ⟨a, hcs, hin, b1, b2, b3, b4, b5, b6, b7, b8⟩ : ∃ a : Arg, cs.toList = [.string a.user, .slice a.sP a.P.length a.cP, .slice a.sE a.E.length a.cE, .slice a.sN a.N.length a.cN, .slice a.sC a.C.length a.cC, .bool a.hc, .slice a.sT a.T.length a.cT, .slice a.sV a.V.length a.cV, .string a.wd, .slice a.sK a.K.length a.cK, .slice a.sL a.L.length a.cL] ∧ a.In W ∧
      a.P.length ≤ 8796093022208 ∧ a.E.length ≤ 8796093022208 ∧ a.N.length ≤ 8796093022208 ∧ a.C.length ≤ 8796093022208 ∧ a.T.length ≤ 8796093022208 ∧ a.V.length ≤ 8796093022208 ∧ a.K.length ≤ 8796093022208 ∧ a.L.length ≤ 8796093022208 := by
    obtain ⟨fuel, hf⟩ := h0
    exact open_arg (x := (d0, p0)) (by simpa [Value.cells] using hf) hwt
  obtain ⟨l⟩ := cs
  simp only at hcs
  subst hcs
  clear hA0 hval0
  refine (walk a dir W hin b1 b2 b3 b4 b5 b6 b7 b8).mono fun e W' ⟨he, bel⟩ => ?_
  subst he
  exact ⟨_, rfl, _, _, _, [], _, [], hW', trodAll_mk1 (shut_bool Yba.underlying4 _), (trodAll_cons_mk (Below.trod laidOut (by kernel_rfl) (of_decide_eq_true (by kernel_rfl)) k0 bel lt0) (trodAll_cons_mk (shut_string Yba.underlying9 w1) trodAll_mk0)), rfl, bel.frame _, fun h => by cases h⟩

theorem over : Rows.lawS6139BWholeRow.holds Yba.pinned (OpenSpec.ofChange Rows.lawS6139BWholeSpec) :=
  OpenClaim.holds_of_wide 3 Yba.f3 rfl rfl rfl rfl rfl rfl rfl ⟨rfl, rfl, rfl, rfl, rfl⟩ rfl rfl rfl rfl rfl (by kernel_rfl) Yba.func3 (by kernel_rfl)
    (of_decide_eq_true (by kernel_rfl)) (by unfold Func.isWrapper; first | (rw [if_pos (by decide +kernel)]; kernel_rfl) | (rw [if_neg (by decide +kernel)]; exact ⟨rfl, rfl⟩))
    (fun os started H enc _ => lifted os started H enc)

/-- ████ THE STATEMENT ████ -/
theorem proved : Rows.LawS6139BWholeSaid := over
#print axioms proved
end Go.Proofs.Ybulkdwcq.lawB

/-
  FOR 'Rows.LawS6136BShortestSaid': compareAlong: its contract.
-/
import Derived.Test.YbulkdwbaBBox
namespace Go.Proofs.Ybulkdwba.lawB
open Go.ChangeShapes Go.WideShapes Go.ChangeAt Go.RowKit Go.Deep Go.Maps
open lawC (rowI rowI_cell rowI_frozen rowI_set made_rowI info3)
set_option linter.unusedVariables false

/-- Where piece i begins. -/
def ct (a w p i : Nat) : Nat := a + i * w / p
theorem ct_mono (a w p : Nat) {i j : Nat} (h : i ≤ j) : ct a w p i ≤ ct a w p j := Nat.add_le_add_left (Nat.div_le_div_right (Nat.mul_le_mul_right _ h)) _
theorem ct_lt (a w p i : Nat) (hp : 0 < p) (h : p ≤ w) : ct a w p i < ct a w p (i + 1) := by
  unfold ct
  have h1 : (i * w + p) / p = i * w / p + 1 := Nat.add_div_right _ hp
  have h2 : (i * w + p) / p ≤ (i + 1) * w / p := Nat.div_le_div_right (by rw [mul1]; omega)
  omega
theorem ct_zero (a w p : Nat) : ct a w p 0 = a := by unfold ct; simp
theorem ct_end (a w p : Nat) (hp : 0 < p) : ct a w p p = a + w := by unfold ct; rw [Nat.mul_comm, Nat.mul_div_cancel _ hp]
theorem ct_le (a w p i : Nat) (hp : 0 < p) (h : i ≤ p) : ct a w p i ≤ a + w := by rw [← ct_end a w p hp]; exact ct_mono a w p h

/-- The first i pieces are done. -/
structure AlongI (w0 : World) (D A B CA CB na nb : Nat) (za zb : List Int) (v4 v5 v6 v8 : Value) (ca0 cb0 : List Bool) (aLo bLo wa hb p i : Nat) (ca cb : List Bool) (h : World) : Prop where
  dif : Dif w0 D A B CA CB na nb za zb v4 v5 v6 v8 ca cb h
  oa : ∀ t, (t < aLo ∨ ct aLo wa p i ≤ t) → ca[t]? = ca0[t]?
  ob : ∀ t, (t < bLo ∨ ct bLo hb p i ≤ t) → cb[t]? = cb0[t]?
  dn : ∀ r, r < i → Done (lin za (ct aLo wa p r)) (lin zb (ct bLo hb p r)) (ct aLo wa p (r + 1) - ct aLo wa p r) (ct bLo hb p (r + 1) - ct bLo hb p r) (mk ca (ct aLo wa p r)) (mk cb (ct bLo hb p r))
theorem AlongI.next {w0 : World} {D A B CA CB na nb : Nat} {za zb : List Int} {v4 v5 v6 v8 : Value} {ca0 cb0 : List Bool} {aLo bLo wa hb p i : Nat} {ca cb : List Bool} {h h' : World} {e : Ending} (s : AlongI w0 D A B CA CB na nb za zb v4 v5 v6 v8 ca0 cb0 aLo bLo wa hb p i ca cb h)
    (c : CbbP w0 D A B CA CB na nb za zb v4 v5 v6 v8 ca cb (ct aLo wa p i) (ct aLo wa p (i + 1)) (ct bLo hb p i) (ct bLo hb p (i + 1)) e h') : e = .returned (.tuple #[]) ∧ ∃ ca' cb', AlongI w0 D A B CA CB na nb za zb v4 v5 v6 v8 ca0 cb0 aLo bLo wa hb p (i + 1) ca' cb' h' := by
  obtain ⟨rfl, ca', cb', d, oa, ob, dn⟩ := c
  have m1 := ct_mono aLo wa p (Nat.le_succ i)
  have m2 := ct_mono bLo hb p (Nat.le_succ i)
  have z1 := ct_mono aLo wa p (Nat.zero_le i)
  have z2 := ct_mono bLo hb p (Nat.zero_le i)
  rw [ct_zero] at z1 z2
  refine ⟨rfl, ca', cb', d, fun t ht => ?_, fun t ht => ?_, fun r hr => ?_⟩
  · have : t < aLo ∨ ct aLo wa p i ≤ t := by simp only [Nat.succ_eq_add_one] at m1; omega
    rw [oa t (by omega)]; exact s.oa t this
  · have : t < bLo ∨ ct bLo hb p i ≤ t := by simp only [Nat.succ_eq_add_one] at m2; omega
    rw [ob t (by omega)]; exact s.ob t this
  · by_cases e : r = i
    · subst e; exact dn
    · have k1 := ct_mono aLo wa p (show r + 1 ≤ i by omega)
      have k2 := ct_mono bLo hb p (show r + 1 ≤ i by omega)
      exact (s.dn r (by omega)).congr (fun k hk => ⟨rfl, by unfold lawB.mk; rw [oa _ (by omega)]⟩) (fun k hk => ⟨rfl, by unfold lawB.mk; rw [ob _ (by omega)]⟩)

/-- The numbers of one bound. -/
theorem ct_nums (a w p i : Nat) (hp : 0 < p) (ha : a ≤ 4096) (hw : w ≤ 4096) (hi : i ≤ 4096) : ∃ m1 q1 x : Nat, (i : Int) * (w : Int) = (m1 : Int) ∧ (m1 : Int).tdiv (p : Int) = (q1 : Int) ∧ (m1 : Int) / (p : Int) = (q1 : Int) ∧ (a : Int) + (q1 : Int) = (x : Int) ∧ x = ct a w p i ∧ m1 ≤ 16777216 ∧ q1 ≤ 16777216 ∧ x ≤ 33554432 := by
  have h1 : i * w ≤ 16777216 := Nat.le_trans (Nat.mul_le_mul hi hw) (by decide)
  have h2 : i * w / p ≤ 16777216 := Nat.le_trans (Nat.div_le_self _ _) h1
  refine ⟨i * w, i * w / p, a + i * w / p, by simp, ?_, by simp, by simp, rfl, h1, h2, by omega⟩
  rw [Int.tdiv_eq_ediv_of_nonneg (by omega)]; simp
theorem wrap_in (x : Nat) (h : x ≤ 33554432) : ∀ z : Int, z = (x : Int) → IntKind.i64.wrap z = (x : Int) := fun z hz => by subst hz; rw [IntKind.wrap_i64]; omega

set_option maxRecDepth 100000 in
set_option maxHeartbeats 4000000 in
theorem along_any (w0 : World) (D A B CA CB na nb : Nat) (za zb : List Int) (v4 v5 v6 v8 : Value) (ca cb : List Bool) (aLo aHi bLo bHi p : Nat) (w : World)
    (hna : za.length = na) (hnb : zb.length = nb) (hna4 : na ≤ 4096) (hnb4 : nb ≤ 4096) (hsa : ∀ z ∈ za, Small z) (hsb : ∀ z ∈ zb, Small z) (hD0 : D < w0.heap.size) (hA0 : A < w0.heap.size) (hB0 : B < w0.heap.size) (hCA0 : CA < w0.heap.size) (hCB0 : CB < w0.heap.size) (hCC : CA ≠ CB)
    (h1 : aLo < aHi) (h2 : aHi ≤ na) (h3 : bLo < bHi) (h4 : bHi ≤ nb) (hp0 : 0 < p) (hpa : p ≤ aHi - aLo) (hpb : p ≤ bHi - bLo) (hd : Dif w0 D A B CA CB na nb za zb v4 v5 v6 v8 ca cb w)
    (fa : ∀ t, aLo ≤ t → t < aHi → ca[t]?.getD false = false) (fb : ∀ t, bLo ≤ t → t < bHi → cb[t]?.getD false = false) :
    Calls Yba.prog 8 #[.pointer (some ⟨D, 0, none⟩), .int .i64 aLo, .int .i64 aHi, .int .i64 bLo, .int .i64 bHi, .int .i64 p] w fun e w' => e = .returned (.tuple #[]) ∧ ∃ ca' cb', AlongI w0 D A B CA CB na nb za zb v4 v5 v6 v8 ca cb aLo bLo (aHi - aLo) (bHi - bLo) p p ca' cb' w' := by
  obtain ⟨wa, hwa⟩ : ∃ wa, wa = aHi - aLo := ⟨_, rfl⟩
  obtain ⟨hb, hhb⟩ : ∃ hb, hb = bHi - bLo := ⟨_, rfl⟩
  rw [← hwa, ← hhb]
  have s1 : (aHi : Int) - (aLo : Int) = (wa : Int) := by omega
  have s2 : (bHi : Int) - (bLo : Int) = (hb : Int) := by omega
  have hpa' : p ≤ wa := by omega
  have hpb' : p ≤ hb := by omega
  have haE : aLo + wa = aHi := by omega
  have hbE : bLo + hb = bHi := by omega
  have HS : Hid (AlongI w0 D A B CA CB na nb za zb v4 v5 v6 v8 ca cb aLo bLo wa hb p 0 ca cb w) := ⟨hd, fun _ _ => rfl, fun _ _ => rfl, fun r hr => absurd hr (by omega)⟩
  have HCALL : Hid (∀ i (ca' cb' : List Bool) (ww : World), i < p → AlongI w0 D A B CA CB na nb za zb v4 v5 v6 v8 ca cb aLo bLo wa hb p i ca' cb' ww → Calls Yba.prog 16 #[.pointer (some ⟨D, 0, none⟩), .int .i64 (ct aLo wa p i : Nat), .int .i64 (ct aLo wa p (i + 1) : Nat), .int .i64 (ct bLo hb p i : Nat), .int .i64 (ct bLo hb p (i + 1) : Nat)] ww fun e w' => e = .returned (.tuple #[]) ∧ ∃ ca' cb', AlongI w0 D A B CA CB na nb za zb v4 v5 v6 v8 ca cb aLo bLo wa hb p (i + 1) ca' cb' w') := fun i ca' cb' ww hi s => by
    have a1 := ct_lt aLo wa p i hp0 hpa'
    have a2 := ct_lt bLo hb p i hp0 hpb'
    have a3 := ct_le aLo wa p (i + 1) hp0 hi
    have a4 := ct_le bLo hb p (i + 1) hp0 hi
    have a5 := ct_mono aLo wa p (Nat.zero_le i)
    have a6 := ct_mono bLo hb p (Nat.zero_le i)
    rw [ct_zero] at a5 a6
    refine (cbb_any w0 D A B CA CB na nb za zb v4 v5 v6 v8 ca' cb' _ _ _ _ ww hna hnb hna4 hnb4 hsa hsb hD0 hA0 hB0 hCA0 hCB0 hCC a1 (by omega) a2 (by omega) s.dif (fun t t1 t2 => ?_) (fun t t1 t2 => ?_)).mono (fun e w' c => s.next c)
    · rw [s.oa t (.inr t1)]; exact fa t (by omega) (by omega)
    · rw [s.ob t (.inr t1)]; exact fb t (by omega) (by omega)
  have hwa4 : wa ≤ 4096 := by omega
  have hhb4 : hb ≤ 4096 := by omega
  have hal4 : aLo ≤ 4096 := by omega
  have hbl4 : bLo ≤ 4096 := by omega
  have hp4 : p ≤ 4096 := by omega
  have hpz : ((p : Int) == 0) = false := by rw [beq_eq_false_iff_ne]; omega
  clear hsa hsb hd fa fb hwa hhb hpa hpb hna hnb haE hbE
  go_enter Yba.func8, Yba.ntmps8
  go_wp2_with fail
  go_loopw [22] (fun v wr => ∃ (i : Nat) (ca' cb' : List Bool), i ≤ p ∧ v = .int .i64 i ∧ AlongI w0 D A B CA CB na nb za zb v4 v5 v6 v8 ca cb aLo bLo wa hb p i ca' cb' wr) (fun v _ => p - (intOf v).toNat)
  case atStart => exact ⟨0, ca, cb, Nat.zero_le _, rfl, HS.out⟩
  case round =>
    clear HS
    obtain ⟨i, ca', cb', hi, rfl, st⟩ := hrel
    by_cases hip : i < p
    · have HC : Hid (∀ k, Calls Yba.prog 16 #[.pointer (some ⟨D, 0, none⟩), .int .i64 (ct aLo wa p i : Nat), .int .i64 (ct aLo wa p (i + 1) : Nat), .int .i64 (ct bLo hb p i : Nat), .int .i64 (ct bLo hb p (i + 1) : Nat)] (wr.drewN k) fun e w' => e = .returned (.tuple #[]) ∧ ∃ ca' cb', AlongI w0 D A B CA CB na nb za zb v4 v5 v6 v8 ca cb aLo bLo wa hb p (i + 1) ca' cb' w') := fun k => HCALL.out i ca' cb' (wr.drewN k) hip ⟨st.dif.drewN k, st.oa, st.ob, st.dn⟩
      obtain ⟨m1, q1, x1, e1, e2, e3, e4, e5, e6, e7, e8⟩ := ct_nums aLo wa p i hp0 hal4 hwa4 (by omega)
      obtain ⟨m2, q2, x2, f1, f2, f3, f4, f5, f6, f7, f8⟩ := ct_nums aLo wa p (i + 1) hp0 hal4 hwa4 (by omega)
      obtain ⟨m3, q3, x3, g1, g2, g3, g4, g5, g6, g7, g8⟩ := ct_nums bLo hb p i hp0 hbl4 hhb4 (by omega)
      obtain ⟨m4, q4, x4, k1, k2, k3, k4, k5, k6, k7, k8⟩ := ct_nums bLo hb p (i + 1) hp0 hbl4 hhb4 (by omega)
      rw [← e5, ← f5, ← g5, ← k5] at HC
      have f1' : ((i : Int) + 1) * (wa : Int) = (m2 : Int) := f1
      have k1' : ((i : Int) + 1) * (hb : Int) = (m4 : Int) := k1
      have n1 := wrap_in m1 (by omega)
      have n2 := wrap_in m2 (by omega)
      have n3 := wrap_in m3 (by omega)
      have n4 := wrap_in m4 (by omega)
      have o1 := wrap_in q1 (by omega)
      have o2 := wrap_in q2 (by omega)
      have o3 := wrap_in q3 (by omega)
      have o4 := wrap_in q4 (by omega)
      have r1 := wrap_in x1 (by omega)
      have r2 := wrap_in x2 (by omega)
      have r3 := wrap_in x3 (by omega)
      have r4 := wrap_in x4 (by omega)
      have i1 : ∀ z : Int, z = (i : Int) + 1 → IntKind.i64.wrap z = (i : Int) + 1 := fun z hz => by subst hz; rw [IntKind.wrap_i64]; omega
      clear HCALL st e5 f5 g5 k5 f1 k1
      go_upto_block 1 with fail
      go_cut [14, 22] from 22 to 57 (fun v14 v22 wc => v22 = .int .i64 i ∧ ∃ ca' cb', AlongI w0 D A B CA CB na nb za zb v4 v5 v6 v8 ca cb aLo bLo wa hb p (i + 1) ca' cb' wc)
      case first =>
        go_upto_region 4 with fail
        go_region_with (go_at_call 16; refine (HC.out _).mono ?_; rintro e w5 ⟨rfl, ca2, cb2, hs2⟩)
        all_goals
          go_wp2_with fail
          go_meet
          case rel => exact ⟨rfl, ca2, cb2, hs2⟩
      case rest =>
        obtain ⟨rfl, ca2, cb2, hs2⟩ := hcut
        clear HC e1 e2 e3 e4 f1' f2 f3 f4 g1 g2 g3 g4 k1' k2 k3 k4 n1 n2 n3 n4 o1 o2 o3 o4 r1 r2 r3 r4 i1
        go_wp2_with fail
        go_roundw
        case rel => exact ⟨i + 1, ca2, cb2, hip, by go_num, hs2⟩
        case measure => simp [intOf] <;> omega
    · obtain rfl : i = p := by omega
      go_wp2_with fail
      go_end0
      exact ⟨rfl, ca', cb', st⟩
end Go.Proofs.Ybulkdwba.lawB

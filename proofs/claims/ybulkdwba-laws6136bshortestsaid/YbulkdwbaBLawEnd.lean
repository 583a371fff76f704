/-
  FOR 'Rows.LawS6136BShortestSaid': the law's own text: the pieces
-/
import Derived.Test.YbulkdwbaBHelp
import Derived.Deep.CutBlock
import Derived.Deep.CutRange
import Derived.Deep.DeepCutAuto
import Derived.Deep.RegionHeld3
namespace Go.Proofs.Ybulkdwba.lawB
open Go.ChangeShapes Go.WideShapes Go.ChangeAt Go.RowKit Go.Deep Go.Maps
open lawC (rowI rowI_cell rowI_frozen rowI_set made_rowI info3)
set_option linter.unusedVariables false

theorem kp_box (za : List Int) (c : List Bool) (o d : Nat) : kp (lin za 0) (mk c 0) o d = kp (lin za o) (mk c o) 0 d := by
  have h := kp_shift (lin za 0) (mk c 0) o 0 d
  rw [Nat.add_zero] at h
  rw [← h]
  refine kp_congr d (fun k _ _ => ⟨?_, ?_⟩)
  · unfold lin; rw [Nat.zero_add]
  · unfold mk; rw [Nat.zero_add]
set_option maxRecDepth 100000 in
set_option maxHeartbeats 4000000 in
theorem law_end {x0 x1 x2 x3 x4 x5 x6 x7 x8 x9 x10 x11 x12 x13 x14 x15 x16 x17 x18 x19 x20 x21 x22 x23 x25 x26 x28 x29 x31 x33 x36 x40 x41 x42 x43 x44 x45 x46 x47 x48 x49 x50 x51 x52 x53 x54 x55 x56 x57 x58 x59 x60 x61 x62 x63 x64 x65 x66 x67 x68 x69 x70 x71 x72 x73 x74 x75 x76 x77 x78 x79 x80 x81 x82 x83 x84 x85 x86 x87 x88 x89 x90 x91 x92 x93 x94 x95 x96 x97 x98 x99 x100 x101 x102 x103 x104 x105 x106 x107 x108 x109 x110 x111 x112 x113 x114 x115 x116 x117 x118 x119 x120 x121 x122 x123 x124 x125 x126 x127 x128 x129 x130 x131 x132 x133 x134 x135 x136 x137 x138 x139 x140 x141 x142 x143 x144 x145 x146 x147 x148 x149 x150 x151 x152 x153 x154 x155 x156 x157 x158 x159 x160 x161 x162 x163 x164 x165 x166 x167 x168 x169 x170 x171 x172 x173 x174 x175 x176 x177 x178 x179 x180 x181 x182 x183 x184 x185 x186 x187 x188 x189 x190 x191 x192 x193 x194 x195 x196 x197 x198 x199 x200 x201 x202 x203 x204 x205 x206 x207 x208 x209 x210 x211 x212 x213 x214 x215 x216 x217 x218 x219 x220 x221 x222 x223 x224 x225 x226 x227 x228 x229 x230 x231 x232 x233 x234 x235 x236 x237 x238 x239 x240 x241 x242 x243 x244 x245 x246 x247 x248 x249 x250 x251 x252 x253 x254 x255 x256 x257 x258 x259 x260 x261 x262 x263 x264 x265 x266 x267 x268 x269 x270 x271 x272 x273 x274 x275 x276 x277 x278 x279 x280 x281 x282 x283 x284 x285 x286 x287 x288 x289 x290 x291 x292 x293 x294 x295 x296 x297 x298 x299 x300 x301 x302 x303 x304 x305 x306 x307 x308 x309 x310 x311 x312 x313 x314 x315 x316 x317 x318 x319 x320 x321 x322 x323 : Value} (POST : Ending → World → Prop) (w9 : World) (HFIN : Hid (∀ wf, Below w9.heap.size w9 wf → POST (.returned (.bool true)) wf)) (DA DB CA CB na nb aLo bLo wa hb p : Nat) (za zb : List Int) (ca cb : List Bool)
    (hna : za.length = na) (hnb : zb.length = nb) (hca : ca.length = na) (hcb : cb.length = nb) (hna4 : na ≤ 4096) (hnb4 : nb ≤ 4096) (ha : aLo + wa ≤ na) (hb' : bLo + hb ≤ nb) (hp0 : 0 < p) (hpa : p ≤ wa) (hpb : p ≤ hb)
    (rA : w9.heap[DA]? = some (rowI za)) (rB : w9.heap[DB]? = some (rowI zb)) (rCA : w9.heap[CA]? = some (rowB ca)) (rCB : w9.heap[CB]? = some (rowB cb))
    (HDN : Hid (∀ r, r < p → Done (lin za (ct aLo wa p r)) (lin zb (ct bLo hb p r)) (ct aLo wa p (r + 1) - ct aLo wa p r) (ct bLo hb p (r + 1) - ct bLo hb p r) (mk ca (ct aLo wa p r)) (mk cb (ct bLo hb p r)))) :
    Code.wp Yba.prog ((Yba.f3.body.bind (fTail 6)).getD .skip) (bodyPost Yba.prog Yba.f3 POST) ⟨List.toArray ((x0) :: (x1) :: (x2) :: (x3) :: (x4) :: (x5) :: (x6) :: (x7) :: (x8) :: (x9) :: (x10) :: (x11) :: (x12) :: (x13) :: (x14) :: (x15) :: (x16) :: (x17) :: (x18) :: (x19) :: (x20) :: (x21) :: (x22) :: (x23) :: (.slice (some ⟨DA, 0, none⟩) na na) :: (x25) :: (x26) :: (.slice (some ⟨DB, 0, none⟩) nb nb) :: (x28) :: (x29) :: (.int .i64 aLo) :: (x31) :: (.int .i64 bLo) :: (x33) :: (.int .i64 wa) :: (.int .i64 hb) :: (x36) :: (.int .i64 p) :: (.slice (some ⟨CA, 0, none⟩) na na) :: (.slice (some ⟨CB, 0, none⟩) nb nb) :: (x40) :: (x41) :: (x42) :: (x43) :: (x44) :: (x45) :: (x46) :: (x47) :: (x48) :: (x49) :: (x50) :: (x51) :: (x52) :: (x53) :: (x54) :: (x55) :: (x56) :: (x57) :: (x58) :: (x59) :: (x60) :: (x61) :: (x62) :: (x63) :: (x64) :: (x65) :: (x66) :: (x67) :: (x68) :: (x69) :: (x70) :: (x71) :: (x72) :: (x73) :: (x74) :: (x75) :: (x76) :: (x77) :: (x78) :: (x79) :: (x80) :: (x81) :: (x82) :: (x83) :: (x84) :: (x85) :: (x86) :: (x87) :: (x88) :: (x89) :: (x90) :: (x91) :: (x92) :: (x93) :: (x94) :: (x95) :: (x96) :: (x97) :: (x98) :: (x99) :: (x100) :: (x101) :: (x102) :: (x103) :: (x104) :: (x105) :: (x106) :: (x107) :: (x108) :: (x109) :: (x110) :: (x111) :: (x112) :: (x113) :: (x114) :: (x115) :: (x116) :: (x117) :: (x118) :: (x119) :: (x120) :: (x121) :: (x122) :: (x123) :: (x124) :: (x125) :: (x126) :: (x127) :: (x128) :: (x129) :: (x130) :: (x131) :: (x132) :: (x133) :: (x134) :: (x135) :: (x136) :: (x137) :: (x138) :: (x139) :: (x140) :: (x141) :: (x142) :: (x143) :: (x144) :: (x145) :: (x146) :: (x147) :: (x148) :: (x149) :: (x150) :: (x151) :: (x152) :: (x153) :: (x154) :: (x155) :: (x156) :: (x157) :: (x158) :: (x159) :: (x160) :: (x161) :: (x162) :: (x163) :: (x164) :: (x165) :: (x166) :: (x167) :: (x168) :: (x169) :: (x170) :: (x171) :: (x172) :: (x173) :: (x174) :: (x175) :: (x176) :: (x177) :: (x178) :: (x179) :: (x180) :: (x181) :: (x182) :: (x183) :: (x184) :: (x185) :: (x186) :: (x187) :: (x188) :: (x189) :: (x190) :: (x191) :: (x192) :: (x193) :: (x194) :: (x195) :: (x196) :: (x197) :: (x198) :: (x199) :: (x200) :: (x201) :: (x202) :: (x203) :: (x204) :: (x205) :: (x206) :: (x207) :: (x208) :: (x209) :: (x210) :: (x211) :: (x212) :: (x213) :: (x214) :: (x215) :: (x216) :: (x217) :: (x218) :: (x219) :: (x220) :: (x221) :: (x222) :: (x223) :: (x224) :: (x225) :: (x226) :: (x227) :: (x228) :: (x229) :: (x230) :: (x231) :: (x232) :: (x233) :: (x234) :: (x235) :: (x236) :: (x237) :: (x238) :: (x239) :: (x240) :: (x241) :: (x242) :: (x243) :: (x244) :: (x245) :: (x246) :: (x247) :: (x248) :: (x249) :: (x250) :: (x251) :: (x252) :: (x253) :: (x254) :: (x255) :: (x256) :: (x257) :: (x258) :: (x259) :: (x260) :: (x261) :: (x262) :: (x263) :: (x264) :: (x265) :: (x266) :: (x267) :: (x268) :: (x269) :: (x270) :: (x271) :: (x272) :: (x273) :: (x274) :: (x275) :: (x276) :: (x277) :: (x278) :: (x279) :: (x280) :: (x281) :: (x282) :: (x283) :: (x284) :: (x285) :: (x286) :: (x287) :: (x288) :: (x289) :: (x290) :: (x291) :: (x292) :: (x293) :: (x294) :: (x295) :: (x296) :: (x297) :: (x298) :: (x299) :: (x300) :: (x301) :: (x302) :: (x303) :: (x304) :: (x305) :: (x306) :: (x307) :: (x308) :: (x309) :: (x310) :: (x311) :: (x312) :: (x313) :: (x314) :: (x315) :: (x316) :: (x317) :: (x318) :: (x319) :: (x320) :: (x321) :: (x322) :: (x323) :: []), []⟩ w9 := by
  conv => arg 2; whnf
  have HKA : Hid (∀ (ww : World) x y, Below w9.heap.size w9 ww → x ≤ y → y ≤ na → Calls Yba.prog 10 #[.slice (some ⟨DA, 0, none⟩) na na, .slice (some ⟨CA, 0, none⟩) na na, .int .i64 (x : Nat), .int .i64 (y : Nat)] ww fun e w' => ∃ g cap, e = .returned (.slice (some ⟨g, 0, none⟩) (kp (lin za 0) (mk ca 0) x (y - x)).length cap) ∧ ww.heap.size ≤ g ∧ Rd (fun j => .int .i64 ((kp (lin za 0) (mk ca 0) x (y - x))[j]?.getD 0)) w' 3 g (kp (lin za 0) (mk ca 0) x (y - x)).length ∧ Below ww.heap.size ww w') := fun ww x y hb hxy hy => kept_any DA CA na x y za ca ww hna hca hna4 hxy hy ((hb.block _ (lt_of_some rA)).trans rA) ((hb.block _ (lt_of_some rCA)).trans rCA)
  have HKB : Hid (∀ (ww : World) x y, Below w9.heap.size w9 ww → x ≤ y → y ≤ nb → Calls Yba.prog 10 #[.slice (some ⟨DB, 0, none⟩) nb nb, .slice (some ⟨CB, 0, none⟩) nb nb, .int .i64 (x : Nat), .int .i64 (y : Nat)] ww fun e w' => ∃ g cap, e = .returned (.slice (some ⟨g, 0, none⟩) (kp (lin zb 0) (mk cb 0) x (y - x)).length cap) ∧ ww.heap.size ≤ g ∧ Rd (fun j => .int .i64 ((kp (lin zb 0) (mk cb 0) x (y - x))[j]?.getD 0)) w' 3 g (kp (lin zb 0) (mk cb 0) x (y - x)).length ∧ Below ww.heap.size ww w') := fun ww x y hb hxy hy => kept_any DB CB nb x y zb cb ww hnb hcb hnb4 hxy hy ((hb.block _ (lt_of_some rB)).trans rB) ((hb.block _ (lt_of_some rCB)).trans rCB)
  have HLC : Hid (∀ (ww : World) x n cX y m cY, Below w9.heap.size w9 ww → x + n ≤ na → y + m ≤ nb → Calls Yba.prog 11 #[.slice (some ⟨DA, x, none⟩) n cX, .slice (some ⟨DB, y, none⟩) m cY] ww fun e w' => e = .returned (.int .i64 (L (lin za x) (lin zb y) n m : Nat)) ∧ Below ww.heap.size ww w') := fun ww x n cX y m cY hb h1 h2 => lcs_any DA x n cX DB y m cY za zb ww (by omega) (by omega) (by omega) (by omega) ((hb.block _ (lt_of_some rA)).trans rA) ((hb.block _ (lt_of_some rB)).trans rB)
  have hwa4 : wa ≤ 4096 := by omega
  have hhb4 : hb ≤ 4096 := by omega
  have hal4 : aLo ≤ 4096 := by omega
  have hbl4 : bLo ≤ 4096 := by omega
  have hp4 : p ≤ 4096 := by omega
  have hpz : ((p : Int) == 0) = false := by rw [beq_eq_false_iff_ne]; omega
  have HKL : Hid (∀ (f : Nat → Int) (c : Nat → Bool) lo d, (kp f c lo d).length ≤ d) := fun f c lo d => by
    induction d with
    | zero => exact Nat.le_refl _
    | succ d ih => rw [kp]; split <;> simp <;> omega
  clear rA rB rCA rCB hna hnb hca hcb
  go_wp2_with fail
  go_loopw [47] (fun v wr => ∃ (i : Nat), i ≤ p ∧ v = .int .i64 i ∧ Below w9.heap.size w9 wr) (fun v _ => p - (intOf v).toNat)
  case atStart => exact ⟨0, Nat.zero_le _, rfl, Below.refl _ _⟩
  case round =>
    obtain ⟨i, hi, rfl, hbel⟩ := hrel
    by_cases hip : i < p
    · have c1 := ct_lt aLo wa p i hp0 hpa
      have c2 := ct_lt bLo hb p i hp0 hpb
      have c3 := ct_le aLo wa p (i + 1) hp0 hip
      have c4 := ct_le bLo hb p (i + 1) hp0 hip
      have hdn := HDN.out i hip
      obtain ⟨m1, q1, x1, e1, e2, e3, e4, e5, e6, e7, e8⟩ := ct_nums aLo wa p i hp0 hal4 hwa4 (by omega)
      obtain ⟨m2, q2, x2, f1, f2, f3, f4, f5, f6, f7, f8⟩ := ct_nums aLo wa p (i + 1) hp0 hal4 hwa4 (by omega)
      obtain ⟨m3, q3, x3, g1, g2, g3, g4, g5, g6, g7, g8⟩ := ct_nums bLo hb p i hp0 hbl4 hhb4 (by omega)
      obtain ⟨m4, q4, x4, k1, k2, k3, k4, k5, k6, k7, k8⟩ := ct_nums bLo hb p (i + 1) hp0 hbl4 hhb4 (by omega)
      rw [← e5, ← f5] at c1
      rw [← g5, ← k5] at c2
      rw [← f5] at c3
      rw [← k5] at c4
      rw [← e5, ← f5, ← g5, ← k5] at hdn
      have f1' : ((i : Int) + 1) * (wa : Int) = (m2 : Int) := f1
      have k1' : ((i : Int) + 1) * (hb : Int) = (m4 : Int) := k1
      have n1 := wrap_in m1 (by omega)
      have n2 := wrap_in m2 (by omega)
      have n3 := wrap_in m3 (by omega)
      have n4 := wrap_in m4 (by omega)
      have o1 := wrap_in q1 (by omega)
      have o2 := wrap_in q2 (by omega)
      have o3 := wrap_in q3 (by omega)
      have o4 := wrap_in q4 (by omega)
      have r1 := wrap_in x1 (by omega)
      have r2 := wrap_in x2 (by omega)
      have r3 := wrap_in x3 (by omega)
      have r4 := wrap_in x4 (by omega)
      have i1 : ∀ z : Int, z = (i : Int) + 1 → IntKind.i64.wrap z = (i : Int) + 1 := fun z hz => by subst hz; rw [IntKind.wrap_i64]; omega
      obtain ⟨xs, hxs⟩ : ∃ xs, xs = kp (lin za 0) (mk ca 0) x1 (x2 - x1) := ⟨_, rfl⟩
      have hys : xs = kp (lin zb 0) (mk cb 0) x3 (x4 - x3) := by rw [hxs, kp_box, kp_box]; exact hdn.1
      have hLen : xs.length = L (lin za x1) (lin zb x3) (x2 - x1) (x4 - x3) := by rw [hxs, kp_box]; exact hdn.2
      have hxl : xs.length ≤ 4096 := by rw [hxs]; exact Nat.le_trans (HKL.out _ _ _ _) (by omega)
      have HA : Hid (∀ k, Calls Yba.prog 10 #[.slice (some ⟨DA, 0, none⟩) na na, .slice (some ⟨CA, 0, none⟩) na na, .int .i64 (x1 : Nat), .int .i64 (x2 : Nat)] (wr.drewN k) fun e w' => ∃ g cap, e = .returned (.slice (some ⟨g, 0, none⟩) xs.length cap) ∧ wr.heap.size ≤ g ∧ Rd (fun j => .int .i64 (xs[j]?.getD 0)) w' 3 g xs.length ∧ Below wr.heap.size (wr.drewN k) w') := fun k => by
        have h := HKA.out (wr.drewN k) x1 x2 (below_drewN hbel k) (by omega) (by omega)
        rw [← hxs] at h
        exact h
      have HB : Hid (∀ (ww : World), Below w9.heap.size w9 ww → Calls Yba.prog 10 #[.slice (some ⟨DB, 0, none⟩) nb nb, .slice (some ⟨CB, 0, none⟩) nb nb, .int .i64 (x3 : Nat), .int .i64 (x4 : Nat)] ww fun e w' => ∃ g cap, e = .returned (.slice (some ⟨g, 0, none⟩) xs.length cap) ∧ ww.heap.size ≤ g ∧ Rd (fun j => .int .i64 (xs[j]?.getD 0)) w' 3 g xs.length ∧ Below ww.heap.size ww w') := fun ww hw => by
        have h := HKB.out ww x3 x4 hw (by omega) (by omega)
        rw [← hys] at h
        exact h
      have HEQ : Hid (∀ (ww : World) (ga gb c1 c2 : Nat), Rd (fun j => .int .i64 (xs[j]?.getD 0)) ww 3 ga xs.length → Rd (fun j => .int .i64 (xs[j]?.getD 0)) ww 3 gb xs.length → Calls Yba.prog 9 #[.slice (some ⟨ga, 0, none⟩) xs.length c1, .slice (some ⟨gb, 0, none⟩) xs.length c2] ww fun e w' => e = .returned (.bool true) ∧ ∃ q, w' = ww.drewN q) := fun ww ga gb c1 c2 h1 h2 => equal_same ga gb xs.length c1 c2 (fun j => xs[j]?.getD 0) ww hxl (fun j hj => h1.cell hj) (fun j hj => h2.cell hj)
      have HL : Hid (∀ (ww : World) (cX cY : Nat), Below w9.heap.size w9 ww → Calls Yba.prog 11 #[.slice (some ⟨DA, x1, none⟩) (x2 - x1) cX, .slice (some ⟨DB, x3, none⟩) (x4 - x3) cY] ww fun e w' => e = .returned (.int .i64 (xs.length : Nat)) ∧ Below ww.heap.size ww w') := fun ww cX cY hw => by
        have h := HLC.out ww x1 (x2 - x1) cX x3 (x4 - x3) cY hw (by omega) (by omega)
        rw [← hLen] at h
        exact h
      have s1 : x1 ≤ x2 := by omega
      have s2 : x3 ≤ x4 := by omega
      have s3 : x2 ≤ na := by omega
      have s4 : x4 ≤ nb := by omega
      have s5 : ¬ na = x1 := by omega
      have s6 : ¬ nb = x3 := by omega
      have HBEL : Hid (Below w9.heap.size w9 wr) := hbel
      obtain ⟨lx, hlx⟩ : ∃ lx, lx = xs.length := ⟨_, rfl⟩
      rw [← hlx] at HA HB HEQ HL hxl
      obtain ⟨dx, hdx⟩ : ∃ dx, dx = x2 - x1 := ⟨_, rfl⟩
      obtain ⟨dy, hdy⟩ : ∃ dy, dy = x4 - x3 := ⟨_, rfl⟩
      rw [← hdx, ← hdy] at HL
      have s7 : x2 - x1 = dx := hdx.symm
      have s8 : x4 - x3 = dy := hdy.symm
      clear hdn hxs hys hLen hbel HKA HKB HLC HDN HKL e5 f5 g5 k5 f1 k1 c1 c2 c3 c4 hlx hdx hdy
      go_upto_region 53 with fail
      go_quiet (fail)
      go_upto_region 54 with fail
      go_quiet (fail)
      clear e1 e2 e3 e4 f1' f2 f3 f4 g1 g2 g3 g4 k1' k2 k3 k4 n1 n2 n3 n4 o1 o2 o3 o4 r1 r2 r3 r4 i1
      have tok1 : True := trivial
      go_upto_region 59 with (first
        | (go_at_call 10; have _t := tok1; refine (HA.out _).mono ?_; rintro e w10 ⟨ga, capa, rfl, hga, hra, hb10⟩; have hB10 : Below w9.heap.size w9 w10 := (below_drewN HBEL.out _).trans (hb10.mono HBEL.out.size); clear tok1)
        | (go_at_call 10; refine (HB.out w10 hB10).mono ?_; rintro e w11 ⟨gb, capb, rfl, hgb, hrb, hb11⟩; have hra11 := hra.keep (hb11.block ga hra.lt); have hB11 : Below w9.heap.size w9 w11 := hB10.trans (hb11.mono hB10.size))
        | (go_at_call 9; refine (HEQ.out w11 ga gb _ _ hra11 hrb).mono ?_; rintro e w12 ⟨rfl, q12, rfl⟩))
      have HBEL2 : Hid (∀ k, Below w9.heap.size w9 (w11.drewN k)) := fun k => below_drewN hB11 k
      clear HA HB HEQ HBEL hra hrb hra11 hB10 hB11 hb10 hb11 hga hgb
      go_cut [47, 323] from 263 to 323 (fun v47 v323 wc => v47 = .int .i64 i ∧ v323 = .bool false ∧ Below w9.heap.size w9 wc)
      case first =>
        go_region_with (go_at_call 11; refine (HL.out _ _ _ (HBEL2.out _)).mono ?_; rintro e w13 ⟨rfl, hb13⟩)
        all_goals
          go_wp2_with fail
          go_meet
          case rel => exact ⟨rfl, rfl, (HBEL2.out _).trans (hb13.mono (HBEL2.out _).size)⟩
      case rest =>
        obtain ⟨rfl, rfl, hbc⟩ := hcut
        clear HL HBEL2
        go_wp2_with fail
        go_roundw
        case rel => exact ⟨i + 1, hip, by go_num, hbc⟩
        case measure => simp [intOf] <;> omega
    · obtain rfl : i = p := by omega
      have HBEL : Hid (Below w9.heap.size w9 wr) := hbel
      clear HKA HKB HLC HDN HKL hbel
      go_wp2_with fail
      exact HFIN.out _ HBEL.out

end Go.Proofs.Ybulkdwba.lawB

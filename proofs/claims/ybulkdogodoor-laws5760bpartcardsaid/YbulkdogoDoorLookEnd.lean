import Derived.Test.YbulkdogoDoorView
namespace Go.Proofs.YbulkdogoDoor
open Go.RowKit Pl
set_option maxHeartbeats 4000000 in
set_option maxRecDepth 100000 in
theorem look_end (wF w0 : World) (S U N : Nat) (P R : Nat → Nat → Nat → Bool) (u k : Nat) (gr pa a0 a1 au f0 f1 t0 t1 : Bool) (ne0 ne1 fa0 fa1 ns0 ns1 th0 th1 : Int) (w : World) (i1 i2 i3 i4 : Int) {x3 x4 x5 x6 x9 x10 x15 x16 x17 x18 x19 x20 x21 x22 x23 x24 x25 x26 x27 x28 x29 x30 x31 x32 x33 x34 x35 x36 x37 x38 x39 x40 x41 x42 x43 x44 x45 x46 x47 x48 x49 x50 x51 x52 x53 x54 x55 x56 x57 x58 x59 x60 x61 x62 x63 x64 x65 x66 x67 x68 x69 x70 x71 x72 x73 x74 x75 x76 x77 x78 x79 x80 x81 x82 x83 x84 x85 x86 x87 x88 x89 x90 x91 x92 x93 x94 x95 x96 x97 x98 x99 x100 x101 x102 x103 x104 x105 x106 x107 x108 x109 x110 x111 x112 x113 x114 x115 x116 x117 x118 x119 x120 x121 x122 x123 x124 x125 x126 x127 x128 x129 x130 x131 x132 x133 x134 x135 x136 x137 x138 x139 x140 x141 x142 x143 x144 x145 x146 x147 x148 x149 x150 x151 x152 x153 x154 x155 x156 x157 x158 x159 x160 x161 x162 x163 x164 x165 x166 x167 x168 x169 x170 x171 x172 x173 x174 x175 x176 x177 x178 x179 x180 x181 x182 x183 x184 x185 x186 x187 x188 x189 x190 x191 x192 x193 x194 x195 x196 x197 x198 x199 x200 x201 x202 x203 x204 x205 x206 x207 x208 x209 x210 x211 x212 x213 x214 x215 x216 x217 x218 x219 x220 x221 x222 x223 x224 x225 x226 x227 x228 x229 x230 x231 x232 x233 x234 x235 x236 x237 x238 x239 x240 x241 x242 x243 x244 x245 x246 x247 x248 x249 x250 x251 x252 x253 x254 x255 x256 x257 x258 x259 x260 x261 x262 x263 x264 x265 x266 x267 x268 x269 x270 x271 x272 x273 x274 x275 x276 x277 x278 x279 x280 x281 x282 x283 x284 x285 x286 x287 x288 x289 x290 x291 x292 x293 x294 x295 x296 x297 x298 x299 x300 x301 x302 x303 x304 x305 x306 x307 x308 x309 x310 x311 x312 x313 x314 x315 x316 x317 x318 : Value} (h3 : k < 3) (HV : Hid (VC (Vw wF w0 S U N P R) S (upd (upd (upd (upd (upd (upd (upd (upd (upd (upd (Cg gr) 11 (.int .i32 ne0)) 13 (.int .i32 fa0)) 15 (.int .i32 ns0)) 17 (.bool a0)) 12 (.int .i32 ne1)) 14 (.int .i32 fa1)) 16 (.int .i32 ns1)) 18 (.bool a1)) 19 (.bool au)) 23 (.bool (validV a0 au a1 ns0 ns1 fa0 fa1 ne0 ne1))) w))
    (HP0 : C14 (Vw wF w0 S U N P R) S fa0 ((k : Int) + 1) f0) (HP1 : C14 (Vw wF w0 S U N P R) S fa1 ((k : Int) + 1) f1) (HT0 : C13 (Vw wF w0 S U N P R) S fa0 k pa false th0) (HT1 : C13 (Vw wF w0 S U N P R) S fa1 k pa true th1) (HQ0 : C14 (Vw wF w0 S U N P R) S th0 ((k : Int) + 1) t0) (HQ1 : C14 (Vw wF w0 S U N P R) S th1 ((k : Int) + 1) t1) (K0 : Act → World → Prop) (K1 : Act → World → Prop) :
    (∀ a w, Code.wp Ybad.prog (tl (tl (tl (tl (tl (tl (tl (tl (tl (tl (bod Ybad.f8.body))))))))))) (bodyPost Ybad.prog Ybad.f8 fun e w' => e = .returned (.pointer (some ⟨S, 7, none⟩)) ∧ VC (Vw wF w0 S U N P R) S (fun j => if j = 23 then some (.bool (validV a0 au a1 ns0 ns1 fa0 fa1 ne0 ne1)) else none) w') a w → K0 a w) → (∀ a w, Code.wp Ybad.prog (tl (hd (tl (tl (tl (tl (tl (tl (tl (tl (tl (bod Ybad.f8.body)))))))))))) (Exit.then K0 (bodyPost Ybad.prog Ybad.f8 fun e w' => e = .returned (.pointer (some ⟨S, 7, none⟩)) ∧ VC (Vw wF w0 S U N P R) S (fun j => if j = 23 then some (.bool (validV a0 au a1 ns0 ns1 fa0 fa1 ne0 ne1)) else none) w')) a w → K1 a w) → Code.wp Ybad.prog (hd (hd (tl (tl (tl (tl (tl (tl (tl (tl (tl (bod Ybad.f8.body)))))))))))) (Exit.then K1 (Exit.then K0 (bodyPost Ybad.prog Ybad.f8 fun e w' => e = .returned (.pointer (some ⟨S, 7, none⟩)) ∧ VC (Vw wF w0 S U N P R) S (fun j => if j = 23 then some (.bool (validV a0 au a1 ns0 ns1 fa0 fa1 ne0 ne1)) else none) w'))) ⟨#[.pointer (some ⟨S, 0, none⟩), .int .i32 (u : Int), .int .i64 ((k : Int) + 1), x3, x4, x5, x6, .pointer (some ⟨S, 7, none⟩), .bool pa, x9, x10, .int .i32 i1, .int .i32 i2, .int .i32 i3, .int .i32 i4, x15, x16, x17, x18, x19, x20, x21, x22, x23, x24, x25, x26, x27, x28, x29, x30, x31, x32, x33, x34, x35, x36, x37, x38, x39, x40, x41, x42, x43, x44, x45, x46, x47, x48, x49, x50, x51, x52, x53, x54, x55, x56, x57, x58, x59, x60, x61, x62, x63, x64, x65, x66, x67, x68, x69, x70, x71, x72, x73, x74, x75, x76, x77, x78, x79, x80, x81, x82, x83, x84, x85, x86, x87, x88, x89, x90, x91, x92, x93, x94, x95, x96, x97, x98, x99, x100, x101, x102, x103, x104, x105, x106, x107, x108, x109, x110, x111, x112, x113, x114, x115, x116, x117, x118, x119, x120, x121, x122, x123, x124, x125, x126, x127, x128, x129, x130, x131, x132, x133, x134, x135, x136, x137, x138, x139, x140, x141, x142, x143, x144, x145, x146, x147, x148, x149, x150, x151, x152, x153, x154, x155, x156, x157, x158, x159, x160, x161, x162, x163, x164, x165, x166, x167, x168, x169, x170, x171, x172, x173, x174, x175, x176, x177, x178, x179, x180, x181, x182, x183, x184, x185, x186, x187, x188, x189, x190, x191, x192, x193, x194, x195, x196, x197, x198, x199, x200, x201, x202, x203, x204, x205, x206, x207, x208, x209, x210, x211, x212, x213, x214, x215, x216, x217, x218, x219, x220, x221, x222, x223, x224, x225, x226, x227, x228, x229, x230, x231, x232, x233, x234, x235, x236, x237, x238, x239, x240, x241, x242, x243, x244, x245, x246, x247, x248, x249, x250, x251, x252, x253, x254, x255, x256, x257, x258, x259, x260, x261, x262, x263, x264, x265, x266, x267, x268, x269, x270, x271, x272, x273, x274, x275, x276, x277, x278, x279, x280, x281, x282, x283, x284, x285, x286, x287, x288, x289, x290, x291, x292, x293, x294, x295, x296, x297, x298, x299, x300, x301, x302, x303, x304, x305, x306, x307, x308, x309, x310, x311, x312, x313, x314, x315, x316, x317, x318], []⟩ w := by
  have hwk : IntKind.i64.wrap (k : Int) = (k : Int) := by rw [IntKind.wrap_i64]; omega
  conv =>
    arg 1
    intro a w
    arg 1
    arg 2
    unfold Ybad.f8
    simp only [tl, hd, bod]
  intro h0
  conv =>
    arg 1
    intro a w
    arg 1
    arg 2
    unfold Ybad.f8
    simp only [tl, hd, bod]
  intro h1
  conv =>
    arg 2
    unfold Ybad.f8
    simp only [tl, hd, bod]
  have c2 := HV.out.cell 2 _ rfl
  by_cases hgr : gr = true
  ·
    go_upto_region 20 with fail
    have hfz := HV.out.vw.fz
    obtain ⟨v, hv⟩ := HV.out.vw.ex 20 (by omega)
    go_cut [11, 12, 13, 14] from 20 to 318 (fun _ _ _ _ wx => ∃ b, VC (Vw wF w0 S U N P R) S (upd (upd (upd (upd (upd (upd (upd (upd (upd (upd (upd (Cg gr) 11 (.int .i32 ne0)) 13 (.int .i32 fa0)) 15 (.int .i32 ns0)) 17 (.bool a0)) 12 (.int .i32 ne1)) 14 (.int .i32 fa1)) 16 (.int .i32 ns1)) 18 (.bool a1)) 19 (.bool au)) 23 (.bool (validV a0 au a1 ns0 ns1 fa0 fa1 ne0 ne1))) 20 (.bool b)) wx)
    case first =>
      as_aux_lemma =>
        go_wp2_with fail
        all_goals go_meet
        all_goals exact ⟨_, HV.out.set 20 (by omega) (by omega) _⟩
    case rest =>
      clear HV hfz hv c2
      obtain ⟨b, hb⟩ := hcut
      have HV : Hid (VC (Vw wF w0 S U N P R) S (upd (upd (upd (upd (upd (upd (upd (upd (upd (upd (upd (Cg gr) 11 (.int .i32 ne0)) 13 (.int .i32 fa0)) 15 (.int .i32 ns0)) 17 (.bool a0)) 12 (.int .i32 ne1)) 14 (.int .i32 fa1)) 16 (.int .i32 ns1)) 18 (.bool a1)) 19 (.bool au)) 23 (.bool (validV a0 au a1 ns0 ns1 fa0 fa1 ne0 ne1))) 20 (.bool b)) wc) := hb
      clear hb
      have c19 := HV.out.cell 19 _ rfl
      have c20 := HV.out.cell 20 _ rfl
      by_cases hb1 : b = true
      ·
        as_aux_lemma =>
          go_wp2_with fail
          go_ret
          exact ⟨rfl, HV.out.end23 rfl⟩
      · have hb2 : b = false := by simpa using hb1
        by_cases hau : au = true
        ·
          as_aux_lemma =>
            go_wp2_with fail
            go_ret
            exact ⟨rfl, HV.out.end23 rfl⟩
        · have hau2 : au = false := by simpa using hau
          go_wp2_with fail
          go_loopw [260] (fun t wr => ∃ sd : Nat, sd ≤ 2 ∧ t = .int .i64 sd ∧ VC (Vw wF w0 S U N P R) S (upd (upd (upd (upd (upd (upd (upd (upd (upd (upd (upd (Cg gr) 11 (.int .i32 ne0)) 13 (.int .i32 fa0)) 15 (.int .i32 ns0)) 17 (.bool a0)) 12 (.int .i32 ne1)) 14 (.int .i32 fa1)) 16 (.int .i32 ns1)) 18 (.bool a1)) 19 (.bool au)) 23 (.bool (validV a0 au a1 ns0 ns1 fa0 fa1 ne0 ne1))) 20 (.bool b)) wr) (fun t _ => 2 - (intOf t).toNat)
          case atStart => exact ⟨0, by omega, rfl, HV.out⟩
          case round =>
            clear HV c19 c20
            obtain ⟨sd, hsd, rfl, hvc⟩ := hrel
            have HV : Hid (VC (Vw wF w0 S U N P R) S (upd (upd (upd (upd (upd (upd (upd (upd (upd (upd (upd (Cg gr) 11 (.int .i32 ne0)) 13 (.int .i32 fa0)) 15 (.int .i32 ns0)) 17 (.bool a0)) 12 (.int .i32 ne1)) 14 (.int .i32 fa1)) 16 (.int .i32 ns1)) 18 (.bool a1)) 19 (.bool au)) 23 (.bool (validV a0 au a1 ns0 ns1 fa0 fa1 ne0 ne1))) 20 (.bool b)) wr) := hvc
            clear hvc
            have hfz := HV.out.vw.fz
            rcases (show sd = 0 ∨ sd = 1 ∨ sd = 2 from by omega) with rfl | rfl | rfl
            · have cn := HV.out.cell 11 _ rfl
              have cf := HV.out.cell 13 _ rfl
              have ca := HV.out.cell 17 _ rfl
              obtain ⟨v, hv⟩ := HV.out.vw.ex 21 (by omega)
              by_cases ha : a0 = true
              · by_cases hf : f0 = true
                · by_cases ht : t0 = true
                  ·
                    as_aux_lemma =>
                      go_upto_region 32 with (first | (go_at_call 14; refine (HP0 _ HV.out.vw).mono ?_; rintro e w' ⟨rfl, m, rfl⟩) | (go_at_call 13; refine (HT0 _ (HV.out.vw.drewN _)).mono ?_; rintro e w' ⟨rfl, m', rfl⟩))
                      go_wp2_with (go_at_call 14; refine (HQ0 _ (HV.out.vw.drewN _)).mono ?_; rintro e w' ⟨rfl, m'', rfl⟩)
                      go_roundw
                      case rel => exact ⟨0 + 1, by omega, by go_num, HV.out.drewN _⟩
                      case measure => simp [intOf]
                  · have ht2 : t0 = false := by simpa using ht
                    as_aux_lemma =>
                      go_upto_region 32 with (first | (go_at_call 14; refine (HP0 _ HV.out.vw).mono ?_; rintro e w' ⟨rfl, m, rfl⟩) | (go_at_call 13; refine (HT0 _ (HV.out.vw.drewN _)).mono ?_; rintro e w' ⟨rfl, m', rfl⟩))
                      go_wp2_with (go_at_call 14; refine (HQ0 _ (HV.out.vw.drewN _)).mono ?_; rintro e w' ⟨rfl, m'', rfl⟩)
                      go_roundw
                      case rel => exact ⟨0 + 1, by omega, by go_num, (HV.out.drewN _).put 21 (by omega) (by omega) rfl _⟩
                      case measure => simp [intOf]
                · have hf2 : f0 = false := by simpa using hf
                  as_aux_lemma =>
                    go_wp2_with (go_at_call 14; refine (HP0 _ HV.out.vw).mono ?_; rintro e w' ⟨rfl, m, rfl⟩)
                    go_roundw
                    case rel => exact ⟨0 + 1, by omega, by go_num, (HV.out.drewN _).put 21 (by omega) (by omega) rfl _⟩
                    case measure => simp [intOf]
              · have ha2 : a0 = false := by simpa using ha
                as_aux_lemma =>
                  go_upto_region 27 with fail
                  go_region
                  go_wp2_with fail
                  go_roundw
                  case rel => exact ⟨0 + 1, by omega, by go_num, by first | exact (HV.out.put 21 (by omega) (by omega) rfl _).drew | exact (HV.out.drewN _).put 21 (by omega) (by omega) rfl _ | exact HV.out.drew.put 21 (by omega) (by omega) rfl _⟩
                  case measure => simp [intOf]
            · have cn := HV.out.cell 12 _ rfl
              have cf := HV.out.cell 14 _ rfl
              have ca := HV.out.cell 18 _ rfl
              obtain ⟨v, hv⟩ := HV.out.vw.ex 22 (by omega)
              by_cases ha : a1 = true
              · by_cases hf : f1 = true
                · by_cases ht : t1 = true
                  ·
                    as_aux_lemma =>
                      go_upto_region 32 with (first | (go_at_call 14; refine (HP1 _ HV.out.vw).mono ?_; rintro e w' ⟨rfl, m, rfl⟩) | (go_at_call 13; refine (HT1 _ (HV.out.vw.drewN _)).mono ?_; rintro e w' ⟨rfl, m', rfl⟩))
                      go_wp2_with (go_at_call 14; refine (HQ1 _ (HV.out.vw.drewN _)).mono ?_; rintro e w' ⟨rfl, m'', rfl⟩)
                      go_roundw
                      case rel => exact ⟨1 + 1, by omega, by go_num, HV.out.drewN _⟩
                      case measure => simp [intOf]
                  · have ht2 : t1 = false := by simpa using ht
                    as_aux_lemma =>
                      go_upto_region 32 with (first | (go_at_call 14; refine (HP1 _ HV.out.vw).mono ?_; rintro e w' ⟨rfl, m, rfl⟩) | (go_at_call 13; refine (HT1 _ (HV.out.vw.drewN _)).mono ?_; rintro e w' ⟨rfl, m', rfl⟩))
                      go_wp2_with (go_at_call 14; refine (HQ1 _ (HV.out.vw.drewN _)).mono ?_; rintro e w' ⟨rfl, m'', rfl⟩)
                      go_roundw
                      case rel => exact ⟨1 + 1, by omega, by go_num, (HV.out.drewN _).put 22 (by omega) (by omega) rfl _⟩
                      case measure => simp [intOf]
                · have hf2 : f1 = false := by simpa using hf
                  as_aux_lemma =>
                    go_wp2_with (go_at_call 14; refine (HP1 _ HV.out.vw).mono ?_; rintro e w' ⟨rfl, m, rfl⟩)
                    go_roundw
                    case rel => exact ⟨1 + 1, by omega, by go_num, (HV.out.drewN _).put 22 (by omega) (by omega) rfl _⟩
                    case measure => simp [intOf]
              · have ha2 : a1 = false := by simpa using ha
                as_aux_lemma =>
                  go_upto_region 27 with fail
                  go_region
                  go_wp2_with fail
                  go_roundw
                  case rel => exact ⟨1 + 1, by omega, by go_num, by first | exact (HV.out.put 22 (by omega) (by omega) rfl _).drew | exact (HV.out.drewN _).put 22 (by omega) (by omega) rfl _ | exact HV.out.drew.put 22 (by omega) (by omega) rfl _⟩
                  case measure => simp [intOf]
            ·
              as_aux_lemma =>
                go_wp2_with fail
                go_ret
                exact ⟨rfl, HV.out.end23 rfl⟩
  · have hgr2 : gr = false := by simpa using hgr
    as_aux_lemma =>
      go_wp2_with fail
      go_ret
      exact ⟨rfl, HV.out.end23 rfl⟩
end Go.Proofs.YbulkdogoDoor

import Derived.Test.YbulkdogoDoorLookEnd
namespace Go.Proofs.YbulkdogoDoor
open Go.RowKit Pl
set_option maxHeartbeats 4000000 in
set_option maxRecDepth 100000 in
theorem look_mid (wF w0 : World) (S U N : Nat) (P R : Nat → Nat → Nat → Bool) (u k : Nat) (gr pa a0 a1 au f0 f1 t0 t1 : Bool) (ne0 ne1 fa0 fa1 ns0 ns1 th0 th1 : Int) (w : World) {x3 x4 x5 x6 x9 x10 x17 x18 x19 x20 x21 x22 x23 x24 x25 x26 x27 x28 x29 x30 x31 x32 x33 x34 x35 x36 x37 x38 x39 x40 x41 x42 x43 x44 x45 x46 x47 x48 x49 x50 x51 x52 x53 x54 x55 x56 x57 x58 x59 x60 x61 x62 x63 x64 x65 x66 x67 x68 x69 x70 x71 x72 x73 x74 x75 x76 x77 x78 x79 x80 x81 x82 x83 x84 x85 x86 x87 x88 x89 x90 x91 x92 x93 x94 x95 x96 x97 x98 x99 x100 x101 x102 x103 x104 x105 x106 x107 x108 x109 x110 x111 x112 x113 x114 x115 x116 x117 x118 x119 x120 x121 x122 x123 x124 x125 x126 x127 x128 x129 x130 x131 x132 x133 x134 x135 x136 x137 x138 x139 x140 x141 x142 x143 x144 x145 x146 x147 x148 x149 x150 x151 x152 x153 x154 x155 x156 x157 x158 x159 x160 x161 x162 x163 x164 x165 x166 x167 x168 x169 x170 x171 x172 x173 x174 x175 x176 x177 x178 x179 x180 x181 x182 x183 x184 x185 x186 x187 x188 x189 x190 x191 x192 x193 x194 x195 x196 x197 x198 x199 x200 x201 x202 x203 x204 x205 x206 x207 x208 x209 x210 x211 x212 x213 x214 x215 x216 x217 x218 x219 x220 x221 x222 x223 x224 x225 x226 x227 x228 x229 x230 x231 x232 x233 x234 x235 x236 x237 x238 x239 x240 x241 x242 x243 x244 x245 x246 x247 x248 x249 x250 x251 x252 x253 x254 x255 x256 x257 x258 x259 x260 x261 x262 x263 x264 x265 x266 x267 x268 x269 x270 x271 x272 x273 x274 x275 x276 x277 x278 x279 x280 x281 x282 x283 x284 x285 x286 x287 x288 x289 x290 x291 x292 x293 x294 x295 x296 x297 x298 x299 x300 x301 x302 x303 x304 x305 x306 x307 x308 x309 x310 x311 x312 x313 x314 x315 x316 x317 x318 : Value} (h3 : k < 3) (HV : Hid (VC (Vw wF w0 S U N P R) S (upd (upd (upd (upd (upd (upd (upd (upd (upd (Cg gr) 11 (.int .i32 ne0)) 13 (.int .i32 fa0)) 15 (.int .i32 ns0)) 17 (.bool a0)) 12 (.int .i32 ne1)) 14 (.int .i32 fa1)) 16 (.int .i32 ns1)) 18 (.bool a1)) 19 (.bool au)) w))
    (HP0 : C14 (Vw wF w0 S U N P R) S fa0 ((k : Int) + 1) f0) (HP1 : C14 (Vw wF w0 S U N P R) S fa1 ((k : Int) + 1) f1) (HT0 : C13 (Vw wF w0 S U N P R) S fa0 k pa false th0) (HT1 : C13 (Vw wF w0 S U N P R) S fa1 k pa true th1) (HQ0 : C14 (Vw wF w0 S U N P R) S th0 ((k : Int) + 1) t0) (HQ1 : C14 (Vw wF w0 S U N P R) S th1 ((k : Int) + 1) t1) (K : Act → World → Prop) :
    (∀ a w, Code.wp Ybad.prog (tl (tl (tl (tl (tl (tl (tl (tl (tl (bod Ybad.f8.body)))))))))) (bodyPost Ybad.prog Ybad.f8 fun e w' => e = .returned (.pointer (some ⟨S, 7, none⟩)) ∧ VC (Vw wF w0 S U N P R) S (fun j => if j = 23 then some (.bool (validV a0 au a1 ns0 ns1 fa0 fa1 ne0 ne1)) else none) w') a w → K a w) → Code.wp Ybad.prog (hd (tl (tl (tl (tl (tl (tl (tl (tl (bod Ybad.f8.body)))))))))) (Exit.then K (bodyPost Ybad.prog Ybad.f8 fun e w' => e = .returned (.pointer (some ⟨S, 7, none⟩)) ∧ VC (Vw wF w0 S U N P R) S (fun j => if j = 23 then some (.bool (validV a0 au a1 ns0 ns1 fa0 fa1 ne0 ne1)) else none) w')) ⟨List.toArray [.pointer (some ⟨S, 0, none⟩), .int .i32 (u : Int), .int .i64 ((k : Int) + 1), x3, x4, x5, x6, .pointer (some ⟨S, 7, none⟩), .bool pa, x9, x10, .int .i32 ne0, .int .i32 ne1, .int .i32 fa0, .int .i32 fa1, .int .i32 ns0, .int .i32 ns1, x17, x18, x19, x20, x21, x22, x23, x24, x25, x26, x27, x28, x29, x30, x31, x32, x33, x34, x35, x36, x37, x38, x39, x40, x41, x42, x43, x44, x45, x46, x47, x48, x49, x50, x51, x52, x53, x54, x55, x56, x57, x58, x59, x60, x61, x62, x63, x64, x65, x66, x67, x68, x69, x70, x71, x72, x73, x74, x75, x76, x77, x78, x79, x80, x81, x82, x83, x84, x85, x86, x87, x88, x89, x90, x91, x92, x93, x94, x95, x96, x97, x98, x99, x100, x101, x102, x103, x104, x105, x106, x107, x108, x109, x110, x111, x112, x113, x114, x115, x116, x117, x118, x119, x120, x121, x122, x123, x124, x125, x126, x127, x128, x129, x130, x131, x132, x133, x134, x135, x136, x137, x138, x139, x140, x141, x142, x143, x144, x145, x146, x147, x148, x149, x150, x151, x152, x153, x154, x155, x156, x157, x158, x159, x160, x161, x162, x163, x164, x165, x166, x167, x168, x169, x170, x171, x172, x173, x174, x175, x176, x177, x178, x179, x180, x181, x182, x183, x184, x185, x186, x187, x188, x189, x190, x191, x192, x193, x194, x195, x196, x197, x198, x199, x200, x201, x202, x203, x204, x205, x206, x207, x208, x209, x210, x211, x212, x213, x214, x215, x216, x217, x218, x219, x220, x221, x222, x223, x224, x225, x226, x227, x228, x229, x230, x231, x232, x233, x234, x235, x236, x237, x238, x239, x240, x241, x242, x243, x244, x245, x246, x247, x248, x249, x250, x251, x252, x253, x254, x255, x256, x257, x258, x259, x260, x261, x262, x263, x264, x265, x266, x267, x268, x269, x270, x271, x272, x273, x274, x275, x276, x277, x278, x279, x280, x281, x282, x283, x284, x285, x286, x287, x288, x289, x290, x291, x292, x293, x294, x295, x296, x297, x298, x299, x300, x301, x302, x303, x304, x305, x306, x307, x308, x309, x310, x311, x312, x313, x314, x315, x316, x317, x318], []⟩ w := by
  conv =>
    arg 1
    intro a w
    arg 1
    arg 2
    unfold Ybad.f8
    simp only [tl, hd, bod]
  intro h0
  conv =>
    arg 2
    unfold Ybad.f8
    simp only [tl, hd, bod]
  dsimp only
  have hfz := HV.out.vw.fz
  obtain ⟨v, hv⟩ := HV.out.vw.ex 23 (by omega)
  have c17 := HV.out.cell 17 _ rfl
  have c18 := HV.out.cell 18 _ rfl
  have c19 := HV.out.cell 19 _ rfl
  go_cut [11, 12, 13, 14, 15, 16] from 17 to 318 (fun s1 s2 s3 s4 _ _ wx => (∃ i1 i2 i3 i4, s1 = .int .i32 i1 ∧ s2 = .int .i32 i2 ∧ s3 = .int .i32 i3 ∧ s4 = .int .i32 i4) ∧ VC (Vw wF w0 S U N P R) S (upd (upd (upd (upd (upd (upd (upd (upd (upd (upd (Cg gr) 11 (.int .i32 ne0)) 13 (.int .i32 fa0)) 15 (.int .i32 ns0)) 17 (.bool a0)) 12 (.int .i32 ne1)) 14 (.int .i32 fa1)) 16 (.int .i32 ns1)) 18 (.bool a1)) 19 (.bool au)) 23 (.bool (validV a0 au a1 ns0 ns1 fa0 fa1 ne0 ne1))) wx)
  case first =>
    clear h0
    cases a0 with
    | false =>
      as_aux_lemma =>
        go_wp2_with fail
        all_goals go_meet
        all_goals exact ⟨⟨_, _, _, _, rfl, rfl, rfl, rfl⟩, HV.out.set_eq 23 (by omega) (by omega) (by simp [validV, *])⟩
    | true =>
      cases au with
      | false =>
        as_aux_lemma =>
          go_wp2_with fail
          all_goals go_meet
          all_goals exact ⟨⟨_, _, _, _, rfl, rfl, rfl, rfl⟩, HV.out.set_eq 23 (by omega) (by omega) (by simp [validV, *])⟩
      | true =>
        cases a1 with
        | false =>
          as_aux_lemma =>
            go_wp2_with fail
            all_goals go_meet
            all_goals exact ⟨⟨_, _, _, _, rfl, rfl, rfl, rfl⟩, HV.out.set_eq 23 (by omega) (by omega) (by simp [validV, *])⟩
        | true =>
          by_cases e1 : (ns1 == fa1) = true
          ·
            by_cases e2 : (ns0 == fa0) = true
            ·
              as_aux_lemma =>
                go_wp2_with fail
                all_goals go_meet
                all_goals exact ⟨⟨_, _, _, _, rfl, rfl, rfl, rfl⟩, HV.out.set_eq 23 (by omega) (by omega) (by simp [validV, *])⟩
            · have e2' : (ns0 == fa0) = false := by simpa using e2
              clear e2
              by_cases e3 : (ns0 == ne0) = true
              ·
                as_aux_lemma =>
                  go_wp2_with fail
                  all_goals go_meet
                  all_goals exact ⟨⟨_, _, _, _, rfl, rfl, rfl, rfl⟩, HV.out.set_eq 23 (by omega) (by omega) (by simp [validV, *])⟩
              · have e3' : (ns0 == ne0) = false := by simpa using e3
                clear e3
                by_cases e4 : (ns0 == -1) = true
                ·
                  as_aux_lemma =>
                    go_wp2_with fail
                    all_goals go_meet
                    all_goals exact ⟨⟨_, _, _, _, rfl, rfl, rfl, rfl⟩, HV.out.set_eq 23 (by omega) (by omega) (by simp [validV, *])⟩
                · have e4' : (ns0 == -1) = false := by simpa using e4
                  clear e4
                  as_aux_lemma =>
                    go_wp2_with fail
                    all_goals go_meet
                    all_goals exact ⟨⟨_, _, _, _, rfl, rfl, rfl, rfl⟩, HV.out.set_eq 23 (by omega) (by omega) (by simp [validV, *])⟩
          · have e1' : (ns1 == fa1) = false := by simpa using e1
            clear e1
            by_cases e2 : (ns0 == fa0) = true
            ·
              by_cases e5 : (ns1 == ne1) = true
              ·
                as_aux_lemma =>
                  go_wp2_with fail
                  all_goals go_meet
                  all_goals exact ⟨⟨_, _, _, _, rfl, rfl, rfl, rfl⟩, HV.out.set_eq 23 (by omega) (by omega) (by simp [validV, *])⟩
              · have e5' : (ns1 == ne1) = false := by simpa using e5
                clear e5
                by_cases e6 : (ns1 == -1) = true
                ·
                  as_aux_lemma =>
                    go_wp2_with fail
                    all_goals go_meet
                    all_goals exact ⟨⟨_, _, _, _, rfl, rfl, rfl, rfl⟩, HV.out.set_eq 23 (by omega) (by omega) (by simp [validV, *])⟩
                · have e6' : (ns1 == -1) = false := by simpa using e6
                  clear e6
                  as_aux_lemma =>
                    go_wp2_with fail
                    all_goals go_meet
                    all_goals exact ⟨⟨_, _, _, _, rfl, rfl, rfl, rfl⟩, HV.out.set_eq 23 (by omega) (by omega) (by simp [validV, *])⟩
            · have e2' : (ns0 == fa0) = false := by simpa using e2
              clear e2
              as_aux_lemma =>
                go_wp2_with fail
                all_goals go_meet
                all_goals exact ⟨⟨_, _, _, _, rfl, rfl, rfl, rfl⟩, HV.out.set_eq 23 (by omega) (by omega) (by simp [validV, *])⟩
  case rest =>
    clear HV hfz hv c17 c18 c19
    obtain ⟨⟨i1, i2, i3, i4, rfl, rfl, rfl, rfl⟩, hcut⟩ := hcut
    have HV : Hid (VC (Vw wF w0 S U N P R) S (upd (upd (upd (upd (upd (upd (upd (upd (upd (upd (Cg gr) 11 (.int .i32 ne0)) 13 (.int .i32 fa0)) 15 (.int .i32 ns0)) 17 (.bool a0)) 12 (.int .i32 ne1)) 14 (.int .i32 fa1)) 16 (.int .i32 ns1)) 18 (.bool a1)) 19 (.bool au)) 23 (.bool (validV a0 au a1 ns0 ns1 fa0 fa1 ne0 ne1))) wc) := hcut
    clear hcut
    go_upto_region 18 with fail
    rename_i K0 hK0 K1 hK1
    exact look_end wF w0 S U N P R u k gr pa a0 a1 au f0 f1 t0 t1 ne0 ne1 fa0 fa1 ns0 ns1 th0 th1 wc i1 i2 i3 i4 h3 HV HP0 HP1 HT0 HT1 HQ0 HQ1 _ _ hK0 hK1
end Go.Proofs.YbulkdogoDoor

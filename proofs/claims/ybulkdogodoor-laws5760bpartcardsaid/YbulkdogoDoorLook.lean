import Derived.Test.YbulkdogoDoorLookLoop
namespace Go.Proofs.YbulkdogoDoor
open Go.RowKit Pl
set_option maxHeartbeats 4000000 in
set_option maxRecDepth 100000 in
theorem look_four (wF w0 : World) (S U N : Nat) (P R : Nat → Nat → Nat → Bool) (u k : Nat) (gr pa a0 a1 au f0 f1 t0 t1 : Bool) (ne0 ne1 fa0 fa1 ns0 ns1 th0 th1 : Int) (w : World) {x3 x4 x5 x6 x8 x9 x10 x11 x12 x13 x14 x15 x16 x17 x18 x19 x20 x21 x22 x23 x24 x25 x26 x27 x28 x29 x30 x31 x32 x33 x34 x35 x36 x37 x38 x39 x40 x41 x42 x43 x44 x45 x46 x47 x48 x49 x50 x51 x52 x53 x54 x55 x56 x57 x58 x59 x60 x61 x62 x63 x64 x65 x66 x67 x68 x69 x70 x71 x72 x73 x74 x75 x76 x77 x78 x79 x80 x81 x82 x83 x84 x85 x86 x87 x88 x89 x90 x91 x92 x93 x94 x95 x96 x97 x98 x99 x100 x101 x102 x103 x104 x105 x106 x107 x108 x109 x110 x111 x112 x113 x114 x115 x116 x117 x118 x119 x120 x121 x122 x123 x124 x125 x126 x127 x128 x129 x130 x131 x132 x133 x134 x135 x136 x137 x138 x139 x140 x141 x142 x143 x144 x145 x146 x147 x148 x149 x150 x151 x152 x153 x154 x155 x156 x157 x158 x159 x160 x161 x162 x163 x164 x165 x166 x167 x168 x169 x170 x171 x172 x173 x174 x175 x176 x177 x178 x179 x180 x181 x182 x183 x184 x185 x186 x187 x188 x189 x190 x191 x192 x193 x194 x195 x196 x197 x198 x199 x200 x201 x202 x203 x204 x205 x206 x207 x208 x209 x210 x211 x212 x213 x214 x215 x216 x217 x218 x219 x220 x221 x222 x223 x224 x225 x226 x227 x228 x229 x230 x231 x232 x233 x234 x235 x236 x237 x238 x239 x240 x241 x242 x243 x244 x245 x246 x247 x248 x249 x250 x251 x252 x253 x254 x255 x256 x257 x258 x259 x260 x261 x262 x263 x264 x265 x266 x267 x268 x269 x270 x271 x272 x273 x274 x275 x276 x277 x278 x279 x280 x281 x282 x283 x284 x285 x286 x287 x288 x289 x290 x291 x292 x293 x294 x295 x296 x297 x298 x299 x300 x301 x302 x303 x304 x305 x306 x307 x308 x309 x310 x311 x312 x313 x314 x315 x316 x317 x318 : Value} (h3 : k < 3) (HV : Hid (VC (Vw wF w0 S U N P R) S (Cg gr) w))
    (hch : w.cell? ⟨S, 6, none⟩ = some (.int .u64 0))
    (HPA : C12 (Vw wF w0 S U N P R) S u k pa) (HN0 : C13 (Vw wF w0 S U N P R) S u k pa false ne0) (HN1 : C13 (Vw wF w0 S U N P R) S u k pa true ne1) (HF0 : C13 (Vw wF w0 S U N P R) S ne0 k pa false fa0) (HF1 : C13 (Vw wF w0 S U N P R) S ne1 k pa true fa1)
    (HS0 : C13 (Vw wF w0 S U N P R) S u ((k : Int) + 1) false false ns0) (HS1 : C13 (Vw wF w0 S U N P R) S u ((k : Int) + 1) false true ns1) (HA0 : C14 (Vw wF w0 S U N P R) S ne0 ((k : Int) + 1) a0) (HA1 : C14 (Vw wF w0 S U N P R) S ne1 ((k : Int) + 1) a1) (HAU : C14 (Vw wF w0 S U N P R) S u ((k : Int) + 1) au)
    (HP0 : C14 (Vw wF w0 S U N P R) S fa0 ((k : Int) + 1) f0) (HP1 : C14 (Vw wF w0 S U N P R) S fa1 ((k : Int) + 1) f1) (HT0 : C13 (Vw wF w0 S U N P R) S fa0 k pa false th0) (HT1 : C13 (Vw wF w0 S U N P R) S fa1 k pa true th1) (HQ0 : C14 (Vw wF w0 S U N P R) S th0 ((k : Int) + 1) t0) (HQ1 : C14 (Vw wF w0 S U N P R) S th1 ((k : Int) + 1) t1) (K : Act → World → Prop) :
    (∀ a w, Code.wp Ybad.prog (tl (tl (tl (tl (bod Ybad.f8.body))))) (bodyPost Ybad.prog Ybad.f8 fun e w' => e = .returned (.pointer (some ⟨S, 7, none⟩)) ∧ VC (Vw wF w0 S U N P R) S (fun j => if j = 23 then some (.bool (validV a0 au a1 ns0 ns1 fa0 fa1 ne0 ne1)) else none) w') a w → K a w) → Code.wp Ybad.prog (hd (tl (tl (tl (bod Ybad.f8.body))))) (Exit.then K (bodyPost Ybad.prog Ybad.f8 fun e w' => e = .returned (.pointer (some ⟨S, 7, none⟩)) ∧ VC (Vw wF w0 S U N P R) S (fun j => if j = 23 then some (.bool (validV a0 au a1 ns0 ns1 fa0 fa1 ne0 ne1)) else none) w')) ⟨#[.pointer (some ⟨S, 0, none⟩), .int .i32 (u : Int), .int .i64 ((k : Int) + 1), x3, x4, x5, x6, .pointer (some ⟨S, 7, none⟩), x8, x9, x10, x11, x12, x13, x14, x15, x16, x17, x18, x19, x20, x21, x22, x23, x24, x25, x26, x27, x28, x29, x30, x31, x32, x33, x34, x35, x36, x37, x38, x39, x40, x41, x42, x43, x44, x45, x46, x47, x48, x49, x50, x51, x52, x53, x54, x55, x56, x57, x58, x59, x60, x61, x62, x63, x64, x65, x66, x67, x68, x69, x70, x71, x72, x73, x74, x75, x76, x77, x78, x79, x80, x81, x82, x83, x84, x85, x86, x87, x88, x89, x90, x91, x92, x93, x94, x95, x96, x97, x98, x99, x100, x101, x102, x103, x104, x105, x106, x107, x108, x109, x110, x111, x112, x113, x114, x115, x116, x117, x118, x119, x120, x121, x122, x123, x124, x125, x126, x127, x128, x129, x130, x131, x132, x133, x134, x135, x136, x137, x138, x139, x140, x141, x142, x143, x144, x145, x146, x147, x148, x149, x150, x151, x152, x153, x154, x155, x156, x157, x158, x159, x160, x161, x162, x163, x164, x165, x166, x167, x168, x169, x170, x171, x172, x173, x174, x175, x176, x177, x178, x179, x180, x181, x182, x183, x184, x185, x186, x187, x188, x189, x190, x191, x192, x193, x194, x195, x196, x197, x198, x199, x200, x201, x202, x203, x204, x205, x206, x207, x208, x209, x210, x211, x212, x213, x214, x215, x216, x217, x218, x219, x220, x221, x222, x223, x224, x225, x226, x227, x228, x229, x230, x231, x232, x233, x234, x235, x236, x237, x238, x239, x240, x241, x242, x243, x244, x245, x246, x247, x248, x249, x250, x251, x252, x253, x254, x255, x256, x257, x258, x259, x260, x261, x262, x263, x264, x265, x266, x267, x268, x269, x270, x271, x272, x273, x274, x275, x276, x277, x278, x279, x280, x281, x282, x283, x284, x285, x286, x287, x288, x289, x290, x291, x292, x293, x294, x295, x296, x297, x298, x299, x300, x301, x302, x303, x304, x305, x306, x307, x308, x309, x310, x311, x312, x313, x314, x315, x316, x317, x318], []⟩ w := by
  have hwk : IntKind.i64.wrap (k : Int) = (k : Int) := by rw [IntKind.wrap_i64]; omega
  conv =>
    arg 1
    intro a w
    arg 1
    arg 2
    unfold Ybad.f8
    simp only [tl, hd, bod]
  intro h0
  conv =>
    arg 2
    unfold Ybad.f8
    simp only [tl, hd, bod]
  have hfz := HV.out.vw.fz
  obtain ⟨v7, h7⟩ := HV.out.vw.ex 7 (by omega)
  obtain ⟨v8, h8⟩ := HV.out.vw.ex 8 (by omega)
  obtain ⟨v9, h9⟩ := HV.out.vw.ex 9 (by omega)
  obtain ⟨v10, h10⟩ := HV.out.vw.ex 10 (by omega)
  obtain ⟨v11, h11⟩ := HV.out.vw.ex 11 (by omega)
  obtain ⟨v12, h12⟩ := HV.out.vw.ex 12 (by omega)
  obtain ⟨v13, h13⟩ := HV.out.vw.ex 13 (by omega)
  obtain ⟨v14, h14⟩ := HV.out.vw.ex 14 (by omega)
  obtain ⟨v15, h15⟩ := HV.out.vw.ex 15 (by omega)
  obtain ⟨v16, h16⟩ := HV.out.vw.ex 16 (by omega)
  obtain ⟨v17, h17⟩ := HV.out.vw.ex 17 (by omega)
  obtain ⟨v18, h18⟩ := HV.out.vw.ex 18 (by omega)
  obtain ⟨v19, h19⟩ := HV.out.vw.ex 19 (by omega)
  obtain ⟨v20, h20⟩ := HV.out.vw.ex 20 (by omega)
  obtain ⟨v21, h21⟩ := HV.out.vw.ex 21 (by omega)
  obtain ⟨v22, h22⟩ := HV.out.vw.ex 22 (by omega)
  obtain ⟨v23, h23⟩ := HV.out.vw.ex 23 (by omega)
  go_upto_region 5 with fail
  refine cut_world (VC (Vw wF w0 S U N P R) S (Cg gr)) (((((((((((((((((HV.out.put 7 (by omega) (by omega) rfl _).put 8 (by omega) (by omega) rfl _).put 9 (by omega) (by omega) rfl _).put 10 (by omega) (by omega) rfl _).put 11 (by omega) (by omega) rfl _).put 12 (by omega) (by omega) rfl _).put 13 (by omega) (by omega) rfl _).put 14 (by omega) (by omega) rfl _).put 15 (by omega) (by omega) rfl _).put 16 (by omega) (by omega) rfl _).put 17 (by omega) (by omega) rfl _).put 18 (by omega) (by omega) rfl _).put 19 (by omega) (by omega) rfl _).put 20 (by omega) (by omega) rfl _).put 21 (by omega) (by omega) rfl _).put 22 (by omega) (by omega) rfl _).put 23 (by omega) (by omega) rfl _) ?_
  clear hfz hch h7 h8 h9 h10 h11 h12 h13 h14 h15 h16 h17 h18 h19 h20 h21 h22 h23 HV
  intro w1 HV1
  have HV : Hid (VC (Vw wF w0 S U N P R) S (Cg gr) w1) := HV1
  clear HV1
  go_upto_region 6 with (go_at_call 12; refine (HPA _ HV.out.vw).mono ?_; rintro e w' ⟨rfl, m, rfl⟩)
  refine cut_world (VC (Vw wF w0 S U N P R) S (Cg gr)) (HV.out.drewN _) ?_
  clear HV
  intro w2 HV2
  have HV : Hid (VC (Vw wF w0 S U N P R) S (Cg gr) w2) := HV2
  clear HV2
  rename_i K0 hK0 K1 hK1
  exact look_loop wF w0 S U N P R u k gr pa a0 a1 au f0 f1 t0 t1 ne0 ne1 fa0 fa1 ns0 ns1 th0 th1 w2 h3 HV HN0 HN1 HF0 HF1 HS0 HS1 HA0 HA1 HAU HP0 HP1 HT0 HT1 HQ0 HQ1 _ _ hK0 hK1

set_option maxHeartbeats 4000000 in
set_option maxRecDepth 100000 in
theorem look_walk (wF w0 : World) (S U N : Nat) (P R : Nat → Nat → Nat → Bool) (u k : Nat) (gr pa a0 a1 au f0 f1 t0 t1 : Bool) (ne0 ne1 fa0 fa1 ns0 ns1 th0 th1 : Int) (w : World) (h : VC (Vw wF w0 S U N P R) S (Cg gr) w) (h3 : k < 3)
    (hch : w.cell? ⟨S, 6, none⟩ = some (.int .u64 0)) (htk : w.cell? ⟨S, 10, none⟩ = some (.bool false))
    (HPA : C12 (Vw wF w0 S U N P R) S u k pa) (HN0 : C13 (Vw wF w0 S U N P R) S u k pa false ne0) (HN1 : C13 (Vw wF w0 S U N P R) S u k pa true ne1) (HF0 : C13 (Vw wF w0 S U N P R) S ne0 k pa false fa0) (HF1 : C13 (Vw wF w0 S U N P R) S ne1 k pa true fa1)
    (HS0 : C13 (Vw wF w0 S U N P R) S u ((k : Int) + 1) false false ns0) (HS1 : C13 (Vw wF w0 S U N P R) S u ((k : Int) + 1) false true ns1) (HA0 : C14 (Vw wF w0 S U N P R) S ne0 ((k : Int) + 1) a0) (HA1 : C14 (Vw wF w0 S U N P R) S ne1 ((k : Int) + 1) a1) (HAU : C14 (Vw wF w0 S U N P R) S u ((k : Int) + 1) au)
    (HP0 : C14 (Vw wF w0 S U N P R) S fa0 ((k : Int) + 1) f0) (HP1 : C14 (Vw wF w0 S U N P R) S fa1 ((k : Int) + 1) f1) (HT0 : C13 (Vw wF w0 S U N P R) S fa0 k pa false th0) (HT1 : C13 (Vw wF w0 S U N P R) S fa1 k pa true th1) (HQ0 : C14 (Vw wF w0 S U N P R) S th0 ((k : Int) + 1) t0) (HQ1 : C14 (Vw wF w0 S U N P R) S th1 ((k : Int) + 1) t1) :
    Calls Ybad.prog 8 #[.pointer (some ⟨S, 0, none⟩), .int .i32 u, .int .i64 ((k : Int) + 1)] w fun e w' => e = .returned (.pointer (some ⟨S, 7, none⟩)) ∧ VC (Vw wF w0 S U N P R) S (fun j => if j = 23 then some (.bool (validV a0 au a1 ns0 ns1 fa0 fa1 ne0 ne1)) else none) w' := by
  have HV : Hid (VC (Vw wF w0 S U N P R) S (Cg gr) w) := h
  clear h
  go_enter Ybad.func8, Ybad.ntmps8
  go_upto_region 2 with fail
  go_quiet (fail)
  go_upto_region 4 with fail
  rename_i K hK
  exact look_four wF w0 S U N P R u k gr pa a0 a1 au f0 f1 t0 t1 ne0 ne1 fa0 fa1 ns0 ns1 th0 th1 _ h3 (HV.out.drewN _) hch HPA HN0 HN1 HF0 HF1 HS0 HS1 HA0 HA1 HAU HP0 HP1 HT0 HT1 HQ0 HQ1 _ hK
end Go.Proofs.YbulkdogoDoor

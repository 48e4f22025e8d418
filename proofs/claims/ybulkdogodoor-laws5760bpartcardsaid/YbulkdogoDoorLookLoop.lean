import Derived.Test.YbulkdogoDoorLookMid
namespace Go.Proofs.YbulkdogoDoor
open Go.RowKit Pl
set_option maxHeartbeats 4000000 in
set_option maxRecDepth 100000 in
theorem look_loop (wF w0 : World) (S U N : Nat) (P R : Nat → Nat → Nat → Bool) (u k : Nat) (gr pa a0 a1 au f0 f1 t0 t1 : Bool) (ne0 ne1 fa0 fa1 ns0 ns1 th0 th1 : Int) (w : World) {x3 x4 x5 x6 x9 x10 x11 x12 x13 x14 x15 x16 x17 x18 x19 x20 x21 x22 x23 x24 x25 x26 x27 x28 x29 x30 x31 x32 x33 x34 x35 x36 x37 x38 x39 x40 x41 x42 x43 x44 x45 x46 x47 x48 x49 x50 x51 x52 x53 x54 x55 x56 x57 x58 x59 x60 x61 x62 x63 x64 x65 x66 x67 x68 x69 x70 x71 x72 x73 x74 x75 x76 x77 x78 x79 x80 x81 x82 x83 x84 x85 x86 x87 x88 x89 x90 x91 x92 x93 x94 x95 x96 x97 x98 x99 x100 x101 x102 x103 x104 x105 x106 x107 x108 x109 x110 x111 x112 x113 x114 x115 x116 x117 x118 x119 x120 x121 x122 x123 x124 x125 x126 x127 x128 x129 x130 x131 x132 x133 x134 x135 x136 x137 x138 x139 x140 x141 x142 x143 x144 x145 x146 x147 x148 x149 x150 x151 x152 x153 x154 x155 x156 x157 x158 x159 x160 x161 x162 x163 x164 x165 x166 x167 x168 x169 x170 x171 x172 x173 x174 x175 x176 x177 x178 x179 x180 x181 x182 x183 x184 x185 x186 x187 x188 x189 x190 x191 x192 x193 x194 x195 x196 x197 x198 x199 x200 x201 x202 x203 x204 x205 x206 x207 x208 x209 x210 x211 x212 x213 x214 x215 x216 x217 x218 x219 x220 x221 x222 x223 x224 x225 x226 x227 x228 x229 x230 x231 x232 x233 x234 x235 x236 x237 x238 x239 x240 x241 x242 x243 x244 x245 x246 x247 x248 x249 x250 x251 x252 x253 x254 x255 x256 x257 x258 x259 x260 x261 x262 x263 x264 x265 x266 x267 x268 x269 x270 x271 x272 x273 x274 x275 x276 x277 x278 x279 x280 x281 x282 x283 x284 x285 x286 x287 x288 x289 x290 x291 x292 x293 x294 x295 x296 x297 x298 x299 x300 x301 x302 x303 x304 x305 x306 x307 x308 x309 x310 x311 x312 x313 x314 x315 x316 x317 x318 : Value} (h3 : k < 3) (HV : Hid (VC (Vw wF w0 S U N P R) S (Cg gr) w))
    (HN0 : C13 (Vw wF w0 S U N P R) S u k pa false ne0) (HN1 : C13 (Vw wF w0 S U N P R) S u k pa true ne1) (HF0 : C13 (Vw wF w0 S U N P R) S ne0 k pa false fa0) (HF1 : C13 (Vw wF w0 S U N P R) S ne1 k pa true fa1)
    (HS0 : C13 (Vw wF w0 S U N P R) S u ((k : Int) + 1) false false ns0) (HS1 : C13 (Vw wF w0 S U N P R) S u ((k : Int) + 1) false true ns1) (HA0 : C14 (Vw wF w0 S U N P R) S ne0 ((k : Int) + 1) a0) (HA1 : C14 (Vw wF w0 S U N P R) S ne1 ((k : Int) + 1) a1) (HAU : C14 (Vw wF w0 S U N P R) S u ((k : Int) + 1) au)
    (HP0 : C14 (Vw wF w0 S U N P R) S fa0 ((k : Int) + 1) f0) (HP1 : C14 (Vw wF w0 S U N P R) S fa1 ((k : Int) + 1) f1) (HT0 : C13 (Vw wF w0 S U N P R) S fa0 k pa false th0) (HT1 : C13 (Vw wF w0 S U N P R) S fa1 k pa true th1) (HQ0 : C14 (Vw wF w0 S U N P R) S th0 ((k : Int) + 1) t0) (HQ1 : C14 (Vw wF w0 S U N P R) S th1 ((k : Int) + 1) t1) (K0 : Act → World → Prop) (K1 : Act → World → Prop) :
    (∀ a w, Code.wp Ybad.prog (tl (tl (tl (tl (tl (tl (bod Ybad.f8.body))))))) (bodyPost Ybad.prog Ybad.f8 fun e w' => e = .returned (.pointer (some ⟨S, 7, none⟩)) ∧ VC (Vw wF w0 S U N P R) S (fun j => if j = 23 then some (.bool (validV a0 au a1 ns0 ns1 fa0 fa1 ne0 ne1)) else none) w') a w → K0 a w) → (∀ a w, Code.wp Ybad.prog (tl (hd (tl (tl (tl (tl (tl (bod Ybad.f8.body)))))))) (Exit.then K0 (bodyPost Ybad.prog Ybad.f8 fun e w' => e = .returned (.pointer (some ⟨S, 7, none⟩)) ∧ VC (Vw wF w0 S U N P R) S (fun j => if j = 23 then some (.bool (validV a0 au a1 ns0 ns1 fa0 fa1 ne0 ne1)) else none) w')) a w → K1 a w) → Code.wp Ybad.prog (hd (hd (tl (tl (tl (tl (tl (bod Ybad.f8.body)))))))) (Exit.then K1 (Exit.then K0 (bodyPost Ybad.prog Ybad.f8 fun e w' => e = .returned (.pointer (some ⟨S, 7, none⟩)) ∧ VC (Vw wF w0 S U N P R) S (fun j => if j = 23 then some (.bool (validV a0 au a1 ns0 ns1 fa0 fa1 ne0 ne1)) else none) w'))) ⟨#[.pointer (some ⟨S, 0, none⟩), .int .i32 (u : Int), .int .i64 ((k : Int) + 1), x3, x4, x5, x6, .pointer (some ⟨S, 7, none⟩), .bool pa, x9, x10, x11, x12, x13, x14, x15, x16, x17, x18, x19, x20, x21, x22, x23, x24, x25, x26, x27, x28, x29, x30, x31, x32, x33, x34, x35, x36, x37, x38, x39, x40, x41, x42, x43, x44, x45, x46, x47, x48, x49, x50, x51, x52, x53, x54, x55, x56, x57, x58, x59, x60, x61, x62, x63, x64, x65, x66, x67, x68, x69, x70, x71, x72, x73, x74, x75, x76, x77, x78, x79, x80, x81, x82, x83, x84, x85, x86, x87, x88, x89, x90, x91, x92, x93, x94, x95, x96, x97, x98, x99, x100, x101, x102, x103, x104, x105, x106, x107, x108, x109, x110, x111, x112, x113, x114, x115, x116, x117, x118, x119, x120, x121, x122, x123, x124, x125, x126, x127, x128, x129, x130, x131, x132, x133, x134, x135, x136, x137, x138, x139, x140, x141, x142, x143, x144, x145, x146, x147, x148, x149, x150, x151, x152, x153, x154, x155, x156, x157, x158, x159, x160, x161, x162, x163, x164, x165, x166, x167, x168, x169, x170, x171, x172, x173, x174, x175, x176, x177, x178, x179, x180, x181, x182, x183, x184, x185, x186, x187, x188, x189, x190, x191, x192, x193, x194, x195, x196, x197, x198, x199, x200, x201, x202, x203, x204, x205, x206, x207, x208, x209, x210, x211, x212, x213, x214, x215, x216, x217, x218, x219, x220, x221, x222, x223, x224, x225, x226, x227, x228, x229, x230, x231, x232, x233, x234, x235, x236, x237, x238, x239, x240, x241, x242, x243, x244, x245, x246, x247, x248, x249, x250, x251, x252, x253, x254, x255, x256, x257, x258, x259, x260, x261, x262, x263, x264, x265, x266, x267, x268, x269, x270, x271, x272, x273, x274, x275, x276, x277, x278, x279, x280, x281, x282, x283, x284, x285, x286, x287, x288, x289, x290, x291, x292, x293, x294, x295, x296, x297, x298, x299, x300, x301, x302, x303, x304, x305, x306, x307, x308, x309, x310, x311, x312, x313, x314, x315, x316, x317, x318], []⟩ w := by
  have hwk : IntKind.i64.wrap (k : Int) = (k : Int) := by rw [IntKind.wrap_i64]; omega
  conv =>
    arg 1
    intro a w
    arg 1
    arg 2
    unfold Ybad.f8
    simp only [tl, hd, bod]
  intro h0
  conv =>
    arg 1
    intro a w
    arg 1
    arg 2
    unfold Ybad.f8
    simp only [tl, hd, bod]
  intro h1
  conv =>
    arg 2
    unfold Ybad.f8
    simp only [tl, hd, bod]
  go_wp2_with fail
  refine wp_loop_rounds 3 ?_
  rw [rounds_succ]
  go_upto_region 10 with fail
  have hfz := HV.out.vw.fz
  obtain ⟨v, hv⟩ := HV.out.vw.ex 11 (by omega)
  go_region_held3 (fun w' => True) (exact trivial) (first | (go_at_call 13; refine (HN0 _ HV.out.vw.drew).mono ?_; rintro e w' ⟨rfl, m, rfl⟩))
  refine cut_world (VC (Vw wF w0 S U N P R) S (upd (Cg gr) 11 (.int .i32 ne0))) ((HV.out.drewN _).set 11 (by omega) (by omega) _) ?_
  clear hfz hv HV
  intro w3 HV3
  have HV : Hid (VC (Vw wF w0 S U N P R) S (upd (Cg gr) 11 (.int .i32 ne0)) w3) := HV3
  clear HV3
  go_upto_region 11 with fail
  have hfz := HV.out.vw.fz
  obtain ⟨v, hv⟩ := HV.out.vw.ex 13 (by omega)
  have hld := HV.out.cell 11 _ rfl
  go_region_held3 (fun w' => w'.cell? ⟨S, 11, none⟩ = some (.int .i32 ne0)) (first | go_keep | (refine Eq.trans (World.cell?_setCell_other (a := _) (b := _) _ _ ?_) ?_; (simp); exact hld)) (first | (go_at_call 13; refine (HF0 _ HV.out.vw.drew).mono ?_; rintro e w' ⟨rfl, m, rfl⟩))
  refine cut_world (VC (Vw wF w0 S U N P R) S (upd (upd (Cg gr) 11 (.int .i32 ne0)) 13 (.int .i32 fa0))) ((HV.out.drewN _).set 13 (by omega) (by omega) _) ?_
  clear hfz hv HV hld
  intro w4 HV4
  have HV : Hid (VC (Vw wF w0 S U N P R) S (upd (upd (Cg gr) 11 (.int .i32 ne0)) 13 (.int .i32 fa0)) w4) := HV4
  clear HV4
  as_aux_lemma =>
    go_upto_region 12 with fail
    have hfz := HV.out.vw.fz
    obtain ⟨v, hv⟩ := HV.out.vw.ex 15 (by omega)
    go_region_held3 (fun w' => True) (exact trivial) (first | (go_at_call 13; refine (HS0 _ HV.out.vw.drew).mono ?_; rintro e w' ⟨rfl, m, rfl⟩))
    refine cut_world (VC (Vw wF w0 S U N P R) S (upd (upd (upd (Cg gr) 11 (.int .i32 ne0)) 13 (.int .i32 fa0)) 15 (.int .i32 ns0))) ((HV.out.drewN _).set 15 (by omega) (by omega) _) ?_
    clear hfz hv HV
    intro w5 HV5
    have HV : Hid (VC (Vw wF w0 S U N P R) S (upd (upd (upd (Cg gr) 11 (.int .i32 ne0)) 13 (.int .i32 fa0)) 15 (.int .i32 ns0)) w5) := HV5
    clear HV5
    go_upto_region 13 with fail
    have hfz := HV.out.vw.fz
    obtain ⟨v, hv⟩ := HV.out.vw.ex 17 (by omega)
    have hld := HV.out.cell 11 _ rfl
    go_region_held3 (fun w' => w'.cell? ⟨S, 11, none⟩ = some (.int .i32 ne0)) (first | go_keep | (refine Eq.trans (World.cell?_setCell_other (a := _) (b := _) _ _ ?_) ?_; (simp); exact hld)) (first | (go_at_call 14; refine (HA0 _ HV.out.vw.drew).mono ?_; rintro e w' ⟨rfl, m, rfl⟩))
    refine cut_world (VC (Vw wF w0 S U N P R) S (upd (upd (upd (upd (Cg gr) 11 (.int .i32 ne0)) 13 (.int .i32 fa0)) 15 (.int .i32 ns0)) 17 (.bool a0))) ((HV.out.drewN _).set 17 (by omega) (by omega) _) ?_
    clear hfz hv HV hld
    intro w6 HV6
    have HV : Hid (VC (Vw wF w0 S U N P R) S (upd (upd (upd (upd (Cg gr) 11 (.int .i32 ne0)) 13 (.int .i32 fa0)) 15 (.int .i32 ns0)) 17 (.bool a0)) w6) := HV6
    clear HV6
    as_aux_lemma =>
      go_wp2_with fail
      rw [rounds_succ]
      go_upto_region 10 with fail
      have hfz := HV.out.vw.fz
      obtain ⟨v, hv⟩ := HV.out.vw.ex 12 (by omega)
      go_region_held3 (fun w' => True) (exact trivial) (first | (go_at_call 13; refine (HN1 _ HV.out.vw.drew).mono ?_; rintro e w' ⟨rfl, m, rfl⟩))
      refine cut_world (VC (Vw wF w0 S U N P R) S (upd (upd (upd (upd (upd (Cg gr) 11 (.int .i32 ne0)) 13 (.int .i32 fa0)) 15 (.int .i32 ns0)) 17 (.bool a0)) 12 (.int .i32 ne1))) ((HV.out.drewN _).set 12 (by omega) (by omega) _) ?_
      clear hfz hv HV
      intro w7 HV7
      have HV : Hid (VC (Vw wF w0 S U N P R) S (upd (upd (upd (upd (upd (Cg gr) 11 (.int .i32 ne0)) 13 (.int .i32 fa0)) 15 (.int .i32 ns0)) 17 (.bool a0)) 12 (.int .i32 ne1)) w7) := HV7
      clear HV7
      go_upto_region 11 with fail
      have hfz := HV.out.vw.fz
      obtain ⟨v, hv⟩ := HV.out.vw.ex 14 (by omega)
      have hld := HV.out.cell 12 _ rfl
      go_region_held3 (fun w' => w'.cell? ⟨S, 12, none⟩ = some (.int .i32 ne1)) (first | go_keep | (refine Eq.trans (World.cell?_setCell_other (a := _) (b := _) _ _ ?_) ?_; (simp); exact hld)) (first | (go_at_call 13; refine (HF1 _ HV.out.vw.drew).mono ?_; rintro e w' ⟨rfl, m, rfl⟩))
      refine cut_world (VC (Vw wF w0 S U N P R) S (upd (upd (upd (upd (upd (upd (Cg gr) 11 (.int .i32 ne0)) 13 (.int .i32 fa0)) 15 (.int .i32 ns0)) 17 (.bool a0)) 12 (.int .i32 ne1)) 14 (.int .i32 fa1))) ((HV.out.drewN _).set 14 (by omega) (by omega) _) ?_
      clear hfz hv HV hld
      intro w8 HV8
      have HV : Hid (VC (Vw wF w0 S U N P R) S (upd (upd (upd (upd (upd (upd (Cg gr) 11 (.int .i32 ne0)) 13 (.int .i32 fa0)) 15 (.int .i32 ns0)) 17 (.bool a0)) 12 (.int .i32 ne1)) 14 (.int .i32 fa1)) w8) := HV8
      clear HV8
      as_aux_lemma =>
        go_upto_region 12 with fail
        have hfz := HV.out.vw.fz
        obtain ⟨v, hv⟩ := HV.out.vw.ex 16 (by omega)
        go_region_held3 (fun w' => True) (exact trivial) (first | (go_at_call 13; refine (HS1 _ HV.out.vw.drew).mono ?_; rintro e w' ⟨rfl, m, rfl⟩))
        refine cut_world (VC (Vw wF w0 S U N P R) S (upd (upd (upd (upd (upd (upd (upd (Cg gr) 11 (.int .i32 ne0)) 13 (.int .i32 fa0)) 15 (.int .i32 ns0)) 17 (.bool a0)) 12 (.int .i32 ne1)) 14 (.int .i32 fa1)) 16 (.int .i32 ns1))) ((HV.out.drewN _).set 16 (by omega) (by omega) _) ?_
        clear hfz hv HV
        intro w9 HV9
        have HV : Hid (VC (Vw wF w0 S U N P R) S (upd (upd (upd (upd (upd (upd (upd (Cg gr) 11 (.int .i32 ne0)) 13 (.int .i32 fa0)) 15 (.int .i32 ns0)) 17 (.bool a0)) 12 (.int .i32 ne1)) 14 (.int .i32 fa1)) 16 (.int .i32 ns1)) w9) := HV9
        clear HV9
        go_upto_region 13 with fail
        have hfz := HV.out.vw.fz
        obtain ⟨v, hv⟩ := HV.out.vw.ex 18 (by omega)
        have hld := HV.out.cell 12 _ rfl
        go_region_held3 (fun w' => w'.cell? ⟨S, 12, none⟩ = some (.int .i32 ne1)) (first | go_keep | (refine Eq.trans (World.cell?_setCell_other (a := _) (b := _) _ _ ?_) ?_; (simp); exact hld)) (first | (go_at_call 14; refine (HA1 _ HV.out.vw.drew).mono ?_; rintro e w' ⟨rfl, m, rfl⟩))
        refine cut_world (VC (Vw wF w0 S U N P R) S (upd (upd (upd (upd (upd (upd (upd (upd (Cg gr) 11 (.int .i32 ne0)) 13 (.int .i32 fa0)) 15 (.int .i32 ns0)) 17 (.bool a0)) 12 (.int .i32 ne1)) 14 (.int .i32 fa1)) 16 (.int .i32 ns1)) 18 (.bool a1))) ((HV.out.drewN _).set 18 (by omega) (by omega) _) ?_
        clear hfz hv HV hld
        intro w10 HV10
        have HV : Hid (VC (Vw wF w0 S U N P R) S (upd (upd (upd (upd (upd (upd (upd (upd (Cg gr) 11 (.int .i32 ne0)) 13 (.int .i32 fa0)) 15 (.int .i32 ns0)) 17 (.bool a0)) 12 (.int .i32 ne1)) 14 (.int .i32 fa1)) 16 (.int .i32 ns1)) 18 (.bool a1)) w10) := HV10
        clear HV10
        as_aux_lemma =>
          go_wp2_with fail
          rw [rounds_succ]
          go_upto_region 15 with fail
          have hfz := HV.out.vw.fz
          obtain ⟨v, hv⟩ := HV.out.vw.ex 19 (by omega)
          go_upto_region 16 with (go_at_call 14; refine (HAU _ HV.out.vw).mono ?_; rintro e w' ⟨rfl, m, rfl⟩)
          refine cut_world (VC (Vw wF w0 S U N P R) S (upd (upd (upd (upd (upd (upd (upd (upd (upd (Cg gr) 11 (.int .i32 ne0)) 13 (.int .i32 fa0)) 15 (.int .i32 ns0)) 17 (.bool a0)) 12 (.int .i32 ne1)) 14 (.int .i32 fa1)) 16 (.int .i32 ns1)) 18 (.bool a1)) 19 (.bool au))) ((HV.out.drewN _).set 19 (by omega) (by omega) _) ?_
          clear hfz hv HV
          intro w11 HV11
          have HV : Hid (VC (Vw wF w0 S U N P R) S (upd (upd (upd (upd (upd (upd (upd (upd (upd (Cg gr) 11 (.int .i32 ne0)) 13 (.int .i32 fa0)) 15 (.int .i32 ns0)) 17 (.bool a0)) 12 (.int .i32 ne1)) 14 (.int .i32 fa1)) 16 (.int .i32 ns1)) 18 (.bool a1)) 19 (.bool au)) w11) := HV11
          clear HV11
          as_aux_lemma =>
            have c11 := HV.out.cell 11 _ rfl
            have c12 := HV.out.cell 12 _ rfl
            have c13 := HV.out.cell 13 _ rfl
            have c14 := HV.out.cell 14 _ rfl
            have c15 := HV.out.cell 15 _ rfl
            have c16 := HV.out.cell 16 _ rfl
            go_quiet (fail)
            go_upto_region 17 with fail
            refine cut_world (VC (Vw wF w0 S U N P R) S (upd (upd (upd (upd (upd (upd (upd (upd (upd (Cg gr) 11 (.int .i32 ne0)) 13 (.int .i32 fa0)) 15 (.int .i32 ns0)) 17 (.bool a0)) 12 (.int .i32 ne1)) 14 (.int .i32 fa1)) 16 (.int .i32 ns1)) 18 (.bool a1)) 19 (.bool au))) (HV.out.drewN _) ?_
            clear c11 c12 c13 c14 c15 c16 HV
            intro w12 HV12
            have HV : Hid (VC (Vw wF w0 S U N P R) S (upd (upd (upd (upd (upd (upd (upd (upd (upd (Cg gr) 11 (.int .i32 ne0)) 13 (.int .i32 fa0)) 15 (.int .i32 ns0)) 17 (.bool a0)) 12 (.int .i32 ne1)) 14 (.int .i32 fa1)) 16 (.int .i32 ns1)) 18 (.bool a1)) 19 (.bool au)) w12) := HV12
            clear HV12
            rename_i K hK
            exact look_mid wF w0 S U N P R u k gr pa a0 a1 au f0 f1 t0 t1 ne0 ne1 fa0 fa1 ns0 ns1 th0 th1 w12 h3 HV HP0 HP1 HT0 HT1 HQ0 HQ1 _ hK
end Go.Proofs.YbulkdogoDoor

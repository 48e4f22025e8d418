import Derived.Test.YbulkdogoDoorApplies
import Derived.Test.YbulkdogoDoorBuild
import Derived.Test.YbulkdogoDoorCalls
import Derived.Deep.CutRange
namespace Go.Proofs.YbulkdogoDoor
open Go.RowKit Pl
/-- The world behind the rule's making. -/
structure Tw (w wp : World) (S B U N : Nat) (P R : Nat → Nat → Nat → Bool) (gr : Bool) (s : ByteArray) (wx : World) : Prop where
  vc : VC (Vw wx wp S U N P R) S (Cg gr) wx
  ch : wx.cell? ⟨S, 6, none⟩ = some (.int .u64 0)
  tk : wx.cell? ⟨S, 10, none⟩ = some (.bool false)
  mp : MatAt wx w.heap.size P
  mr : MatAt wx (w.heap.size + 1) R
  r0 : wx.cell? ⟨B, 0, none⟩ = some (.string s)
  r1 : wx.cell? ⟨B, 1, none⟩ = some (.bool true)
  r2 : wx.cell? ⟨B, 2, none⟩ = some (.func (.func 7) #[] #[])
  r3 : wx.cell? ⟨B, 3, none⟩ = some (.func (.func 9) #[] #[])
  bel : Below w.heap.size w wx
  ne : B ≠ S
  gs : w.heap.size < S
  lt : B < wx.heap.size
theorem tw_start {w wp : World} {N U : Nat} {P R : Nat → Nat → Nat → Bool} {f : Nat → Value} {gr : Bool} {s : ByteArray} (h : I2 w P R N U N f wp) (O : Obj) :
    Tw w wp wp.heap.size (wp.heap.size + 1 + 1) U N P R gr s (((wp.alloc (.cells #[.pointer none, .slice (some ⟨U, 0, none⟩) N N, .bool gr, .slice none 0 0, .bool false, .slice none 0 0, .int .u64 0, .int .i32 0, .int .i64 0, .int .u64 0, .bool false, .int .i32 0, .int .i32 0, .int .i32 0, .int .i32 0, .int .i32 0, .int .i32 0, .bool false, .bool false, .bool false, .bool false, .int .i32 0, .int .i32 0, .bool false] 43)).alloc O).alloc (.cells #[.string s, .bool true, .func (.func 7) #[] #[], .func (.func 9) #[] #[]] 47)) := by
  have hs1 := h.bel.size
  have hU := h.row.lt
  have hgt := h.gt
  generalize hC : (#[.pointer none, .slice (some ⟨U, 0, none⟩) N N, .bool gr, .slice none 0 0, .bool false, .slice none 0 0, .int .u64 0, .int .i32 0, .int .i64 0, .int .u64 0, .bool false, .int .i32 0, .int .i32 0, .int .i32 0, .int .i32 0, .int .i32 0, .int .i32 0, .bool false, .bool false, .bool false, .bool false, .int .i32 0, .int .i32 0, .bool false] : Array Value) = C
  have hcs : C.size = 24 := by rw [← hC]; rfl
  have cS : ∀ j o, (((wp.alloc (.cells C 43)).alloc O).alloc o).cell? ⟨wp.heap.size, j, none⟩ = C[j]? := fun j o => by
    rw [World.cell?_alloc_lt (a := ⟨wp.heap.size, j, none⟩) _ _ (by simp; omega), World.cell?_alloc_lt (a := ⟨wp.heap.size, j, none⟩) _ _ (by simp)]
    exact World.cell?_alloc_at _ _ _ _ rfl
  have hB : ∀ j c, (((wp.alloc (.cells C 43)).alloc O).alloc (.cells c 47)).cell? ⟨wp.heap.size + 1 + 1, j, none⟩ = c[j]? := fun j c => World.cell?_alloc_at _ _ _ _ (by simp)
  have bw : ∀ o, Below wp.heap.size wp (((wp.alloc (.cells C 43)).alloc O).alloc o) := fun o => (((Below.refl _ _).alloc (Nat.le_refl _) _).alloc (by simp) _).alloc (by simp; omega) _
  refine ⟨⟨⟨bw _, Nat.le_refl _, fun p hp => ?_, ?_, fun k hk => ?_, fun k => ?_, fun _ _ => rfl⟩, fun k v hk => ?_⟩, ?_, ?_, ?_, ?_, ?_, ?_, ?_, ?_, ?_, by omega, by omega, by simp⟩
  · exact ⟨f p, h.row.cell hp, h.old p hp hp⟩
  · rw [cS, ← hC]; rfl
  · rw [cS]
    exact ⟨C[k]'(by omega), Array.getElem?_eq_getElem (by omega)⟩
  · rw [World.frozen?_alloc_past _ _ _ (by simp; omega), World.frozen?_alloc_past _ _ _ (by simp)]
    exact World.frozen?_alloc_at _ _ _ _ rfl
  · have hk2 : k = 2 := by
      by_cases e : k = 2
      · exact e
      · simp [Cg, e] at hk
    subst hk2
    rw [cS, ← hC]
    exact hk
  · rw [cS, ← hC]; rfl
  · rw [cS, ← hC]; rfl
  · exact (h.mp.below (bw _) (by omega)).mat
  · exact (h.mr.below (bw _) (by omega)).mat
  · rw [hB]; rfl
  · rw [hB]; rfl
  · rw [hB]; rfl
  · rw [hB]; rfl
  · exact h.bel.trans ((bw _).mono (by omega))
/-- Behind 'applies'. -/
theorem tw_after {w wp wx wy : World} {S B U N : Nat} {P R : Nat → Nat → Nat → Bool} {gr : Bool} {s : ByteArray} (h : Tw w wp S B U N P R gr s wx) (hv : Vw wx wp S U N P R wy) (hb : Below w.heap.size w wp) : wy.cell? ⟨B, 3, none⟩ = some (.func (.func 9) #[] #[]) ∧ Below w.heap.size w wy := by
  have := h.gs
  refine ⟨?_, hb.trans (hv.bel.mono (by omega))⟩
  rw [World.cell?_of_block (w := wx) (a := ⟨B, 3, none⟩) (hv.far B h.ne)]
  exact h.r3
theorem run_eql44 (f : Fn) (x y : Array Value) (w : World) : Sem.run Ybad.prog (binOp .eql 44 (.func f x y) .nilFunc) w = .ok (.bool false) w := by kernel_rfl
theorem run_eql45 (f : Fn) (x y : Array Value) (w : World) : Sem.run Ybad.prog (binOp .eql 45 (.func f x y) .nilFunc) w = .ok (.bool false) w := by kernel_rfl
def C5 (w : World) (b N : Nat) (a l : Int) (res : Bool) : Prop := Calls Ybad.prog 5 #[.pointer (some ⟨b, 0, none⟩), .int .i32 N, .int .i32 a, .int .i64 l] w fun e w' => e = .returned (.bool res) ∧ w = w'
def C6 (w : World) (b N : Nat) (a l : Int) (r : Bool) (res : Int) : Prop := Calls Ybad.prog 6 #[.pointer (some ⟨b, 0, none⟩), .int .i32 N, .int .i32 a, .int .i64 l, .bool r] w fun e w' => e = .returned (.int .i32 res) ∧ w = w'
def C7 (w wp : World) (S U N : Nat) (P R : Nat → Nat → Nat → Bool) (u : Nat) (l : Int) (ok : Bool) : Prop := Calls Ybad.prog 7 #[.pointer (some ⟨S, 0, none⟩), .int .i32 u, .int .i64 l] w fun e w' => e = .returned (.bool (!ok)) ∧ Vw w wp S U N P R w'
theorem Vw.alloc {wF w0 : World} {S U N : Nat} {P R : Nat → Nat → Nat → Bool} {w : World} (h : Vw wF w0 S U N P R w) (hS : S < w.heap.size) (O : Obj) : Vw (w.alloc O) w0 S U N P R (w.alloc O) := by
  refine ⟨h.bel.alloc (by omega) O, h.sz, h.base, ?_, fun k hk => ?_, fun k => ?_, fun _ _ => rfl⟩
  · rw [World.cell?_alloc_lt (a := ⟨S, 1, none⟩) _ _ hS]; exact h.up
  · rw [World.cell?_alloc_lt (a := ⟨S, k, none⟩) _ _ hS]; exact h.ex k hk
  · rw [World.frozen?_alloc_past _ _ _ hS]; exact h.fz k
set_option maxHeartbeats 4000000 in
set_option maxRecDepth 100000 in
theorem law_tail (s : ByteArray) (uv lv : Nat) (gr : Bool) (w wp : World) (N U : Nat) (P R : Nat → Nat → Nat → Bool) (f : Nat → Value) {x1 x2 x6 x7 x8 x9 x10 x11 x12 x16 x17 x18 x19 x20 x22 x23 x24 x25 x26 x27 x28 x29 x30 x31 x32 x33 x34 x35 x36 x37 x38 x39 x40 x41 x42 x43 x44 x45 x46 x47 x48 x49 x50 x51 x52 x53 x54 x55 x56 x57 x58 x59 x60 x61 x62 x63 x64 x65 x66 x67 x68 x69 x70 x71 x72 x73 x74 x75 x76 x77 x78 x79 x80 x81 x82 x83 x84 x85 x86 x87 x88 x89 x90 x91 x92 x93 x94 x95 x96 x97 x98 x99 x100 x101 x102 x103 x104 x105 x106 x107 x108 x109 x110 x111 x112 x113 x114 x115 x116 x117 x118 x119 x120 x121 x122 x123 x124 x125 x126 x127 x128 x129 x130 x131 x132 x133 x134 x135 x136 x137 x138 x139 x140 x141 x142 x143 x144 x145 x146 x147 x148 x149 x150 x151 x152 x153 x154 x155 x156 x157 x158 x159 x160 x161 x162 x163 x164 x165 x166 x167 x168 x169 x170 x171 x172 x173 x174 x175 x176 x177 x178 x179 x180 x181 x182 x183 x184 x185 x186 x187 x188 x189 x190 x191 x192 x193 x194 x195 x196 x197 x198 x199 x200 x201 x202 x203 x204 x205 x206 x207 x208 x209 x210 x211 x212 x213 x214 x215 x216 x217 x218 x219 x220 x221 x222 x223 x224 x225 x226 x227 x228 x229 x230 x231 x232 x233 x234 x235 x236 x237 x238 x239 x240 x241 x242 x243 x244 x245 x246 x247 x248 x249 x250 x251 x252 x253 x254 x255 x256 x257 x258 x259 x260 x261 x262 x263 x264 x265 x266 x267 x268 x269 x270 x271 x272 x273 x274 x275 x276 x277 x278 x279 x280 x281 x282 x283 x284 x285 x286 x287 x288 x289 x290 x291 x292 x293 x294 x295 x296 x297 x298 x299 x300 x301 x302 x303 x304 x305 x306 x307 x308 x309 x310 x311 x312 x313 x314 x315 x316 x317 x318 x319 x320 x321 x322 x323 x324 x325 x326 x327 x328 x329 x330 x331 : Value} (huv : uv < 256) (hlv : lv < 256) (hN1 : 1 ≤ N) (hN2 : N ≤ 64) (HI : Hid (I2 w P R N U N f wp)) (dP : Hid (Dg P)) (dR : Hid (Dg R)) (K : Act → World → Prop) :
    (∀ a wz, Code.wp Ybad.prog (tl (tl (tl (tl (tl (tl (tl (tl (bod Ybad.f3.body))))))))) (bodyPost Ybad.prog Ybad.f3 fun e w' => e = .returned (.bool true) ∧ Below w.heap.size w w') a wz → K a wz) → Code.wp Ybad.prog (hd (tl (tl (tl (tl (tl (tl (tl (bod Ybad.f3.body))))))))) (Exit.then K (bodyPost Ybad.prog Ybad.f3 fun e w' => e = .returned (.bool true) ∧ Below w.heap.size w w')) ⟨#[.string s, x1, x2, .int .u8 (uv : Int), .int .u8 (lv : Int), .bool gr, x6, x7, x8, x9, x10, x11, x12, .int .i32 (N : Int), .pointer (some ⟨w.heap.size, 0, none⟩), .pointer (some ⟨w.heap.size + 1, 0, none⟩), x16, x17, x18, x19, x20, .slice (some ⟨U, 0, none⟩) N N, x22, x23, x24, x25, x26, x27, x28, x29, x30, x31, x32, x33, x34, x35, x36, x37, x38, x39, x40, x41, x42, x43, x44, x45, x46, x47, x48, x49, x50, x51, x52, x53, x54, x55, x56, x57, x58, x59, x60, x61, x62, x63, x64, x65, x66, x67, x68, x69, x70, x71, x72, x73, x74, x75, x76, x77, x78, x79, x80, x81, x82, x83, x84, x85, x86, x87, x88, x89, x90, x91, x92, x93, x94, x95, x96, x97, x98, x99, x100, x101, x102, x103, x104, x105, x106, x107, x108, x109, x110, x111, x112, x113, x114, x115, x116, x117, x118, x119, x120, x121, x122, x123, x124, x125, x126, x127, x128, x129, x130, x131, x132, x133, x134, x135, x136, x137, x138, x139, x140, x141, x142, x143, x144, x145, x146, x147, x148, x149, x150, x151, x152, x153, x154, x155, x156, x157, x158, x159, x160, x161, x162, x163, x164, x165, x166, x167, x168, x169, x170, x171, x172, x173, x174, x175, x176, x177, x178, x179, x180, x181, x182, x183, x184, x185, x186, x187, x188, x189, x190, x191, x192, x193, x194, x195, x196, x197, x198, x199, x200, x201, x202, x203, x204, x205, x206, x207, x208, x209, x210, x211, x212, x213, x214, x215, x216, x217, x218, x219, x220, x221, x222, x223, x224, x225, x226, x227, x228, x229, x230, x231, x232, x233, x234, x235, x236, x237, x238, x239, x240, x241, x242, x243, x244, x245, x246, x247, x248, x249, x250, x251, x252, x253, x254, x255, x256, x257, x258, x259, x260, x261, x262, x263, x264, x265, x266, x267, x268, x269, x270, x271, x272, x273, x274, x275, x276, x277, x278, x279, x280, x281, x282, x283, x284, x285, x286, x287, x288, x289, x290, x291, x292, x293, x294, x295, x296, x297, x298, x299, x300, x301, x302, x303, x304, x305, x306, x307, x308, x309, x310, x311, x312, x313, x314, x315, x316, x317, x318, x319, x320, x321, x322, x323, x324, x325, x326, x327, x328, x329, x330, x331], []⟩ wp := by
  conv =>
    arg 1
    intro a w
    arg 1
    arg 2
    unfold Ybad.f3
    simp only [tl, hd, bod]
  intro h0
  conv =>
    arg 2
    unfold Ybad.f3
    simp only [tl, hd, bod]
  obtain ⟨u, hu⟩ : ∃ u : Nat, u = uv % N := ⟨_, rfl⟩
  obtain ⟨k, hk⟩ : ∃ k : Nat, k = 1 + lv % 2 := ⟨_, rfl⟩
  have hu1 : u < N := by rw [hu]; exact Nat.mod_lt _ (by omega)
  have hk1 : 1 ≤ k := by omega
  have hk3 : k < 3 := by omega
  have eu : (uv : Int) % (N : Int) = (u : Int) := by rw [hu]; rfl
  have ek : (2 : Int) + (lv : Int) % 2 = (k : Int) + 1 := by rw [hk]; omega
  have hbp : Hid (Below w.heap.size w wp) := HI.out.bel
  clear hu hk
  go_upto_region 39 with (go_at_call 4; refine (rule_any _ _).mono ?_; rintro e w' ⟨rfl, O, rfl⟩)
  refine cut_world (Tw w wp wp.heap.size (wp.heap.size + 1 + 1) U N P R gr s) (tw_start HI.out O) ?_
  clear HI
  intro wx hx
  have HT : Hid (Tw w wp wp.heap.size (wp.heap.size + 1 + 1) U N P R gr s wx) := hx
  clear hx
  obtain ⟨S, hS⟩ : ∃ S, S = wp.heap.size := ⟨_, rfl⟩
  obtain ⟨B, hB⟩ : ∃ B, B = wp.heap.size + 1 + 1 := ⟨_, rfl⟩
  rw [← hB, ← hS] at HT
  rw [← hB, ← hS]
  clear hB hS
  have r0 := HT.out.r0
  have r1 := HT.out.r1
  have r2 := HT.out.r2
  have r3 := HT.out.r3
  have q1 := run_eql44
  have q2 := run_eql45
  go_upto_region 41 with fail
  clear q1 q2 r0 r1 r3
  have e1 : ((k : Int) + 1) = ((k + 1 : Nat) : Int) := by omega
  have hu' : (u : Int) = -1 ∨ (0 ≤ (u : Int) ∧ (u : Int) < N) := .inr ⟨by omega, by omega⟩
  have rn : ∀ r, neV P R N u k r = -1 ∨ (0 ≤ neV P R N u k r ∧ neV P R N u k r < N) := fun r => nbV_rng hu'
  have c5 : ∀ (a : Int), (a = -1 ∨ (0 ≤ a ∧ a < N)) → C5 wx w.heap.size N a ((k : Int) + 1) (promV (P (k + 1) a.toNat) N a) := fun a ha => by
    unfold C5
    rw [e1]
    exact prom_any _ N (k + 1) a P wx HT.out.mp hN2 (by omega) ha
  have c6 : ∀ (a : Int) (r : Bool), (a = -1 ∨ (0 ≤ a ∧ a < N)) → C6 wx w.heap.size N a ((k : Int) + 1) r (nbV (P (k + 1) a.toNat) N a r) := fun a r ha => by
    unfold C6
    rw [e1]
    exact nb_any _ N (k + 1) a r P wx HT.out.mp hN2 (by omega) ha
  have c50 : C5 wx w.heap.size N u k (promV (P k (u : Int).toNat) N u) := prom_any _ N k u P wx HT.out.mp hN2 (by omega) hu'
  have cm : ∀ (a : Int) (r : Bool), (a = -1 ∨ (0 ≤ a ∧ a < N)) → C6 wx (if promV (P k (u : Int).toNat) N u then w.heap.size else w.heap.size + 1) N a k r (nbV (par P R N u k k a.toNat) N a r) := fun a r ha => by
    unfold par
    cases promV (P k (u : Int).toNat) N u with
    | true => exact nb_any _ N k a r P wx HT.out.mp hN2 (by omega) ha
    | false => exact nb_any _ N k a r R wx HT.out.mr hN2 (by omega) ha
  have h44 := cm u false hu'
  have h45 := cm u true hu'
  have h46 := cm _ false (rn false)
  have h47 := cm _ true (rn true)
  have h48 := c6 u false hu'
  have h49 := c6 u true hu'
  have h50 := c5 _ (rn false)
  have h51 := c5 _ (rn true)
  have h52 := c5 u hu'
  have h54 : C7 wx wp S U N P R u ((k : Int) + 1) (okV P R N u k) := applies_any wx wp S U N P R u k gr wx HT.out.vc hN2 dP.out dR.out hu1 hk1 hk3 HT.out.ch HT.out.tk
  have hno : Hid (auV P N u k = false → nbs (P (k + 1) u) N = []) := fun h => by
    unfold auV promV at h
    rw [if_neg (by omega), Int.toNat_natCast, anyV_iff] at h
    simpa using h
  change C6 wx _ N u k false (neV P R N u k false) at h44
  change C6 wx _ N u k true (neV P R N u k true) at h45
  change C6 wx _ N (neV P R N u k false) k false (faV P R N u k false) at h46
  change C6 wx _ N (neV P R N u k true) k true (faV P R N u k true) at h47
  change C6 wx _ N u _ false (nsV P N u k false) at h48
  change C6 wx _ N u _ true (nsV P N u k true) at h49
  change C5 wx _ N (neV P R N u k false) _ (atV P R N u k false) at h50
  change C5 wx _ N (neV P R N u k true) _ (atV P R N u k true) at h51
  change C5 wx _ N u _ (auV P N u k) at h52
  unfold okV at h54
  clear cm c5 c6 rn e1
  generalize neV P R N u k false = n0 at *
  generalize neV P R N u k true = n1 at *
  generalize faV P R N u k false = f0 at *
  generalize faV P R N u k true = f1 at *
  generalize nsV P N u k false = s0 at *
  generalize nsV P N u k true = s1 at *
  generalize atV P R N u k false = a0 at *
  generalize atV P R N u k true = a1 at *
  generalize auV P N u k = au at *
  generalize promV (P k (u : Int).toNat) N u = pm at *
  go_upto_if 201 with (go_at_call 5; refine Calls.mono c50 ?_; rintro e w' ⟨rfl, rfl⟩)
  go_cut [31] from 196 to 201 (fun s31 wxx => s31 = .pointer (some ⟨if pm then w.heap.size else w.heap.size + 1, 0, none⟩) ∧ wxx = wx)
  case first =>
    cases pm with
    | true =>
      go_wp2_with fail
      go_meet
      exact ⟨rfl, rfl⟩
    | false =>
      go_wp2_with fail
      go_meet
      exact ⟨rfl, rfl⟩
  case rest =>
  obtain ⟨rfl, rfl⟩ := hcut
  generalize (if pm then w.heap.size else w.heap.size + 1) = mb at *
  go_upto_region 45 with (go_at_call 6; refine Calls.mono h44 ?_; rintro e w' ⟨rfl, rfl⟩)
  go_upto_region 46 with (go_at_call 6; refine Calls.mono h45 ?_; rintro e w' ⟨rfl, rfl⟩)
  go_upto_region 47 with (go_at_call 6; refine Calls.mono h46 ?_; rintro e w' ⟨rfl, rfl⟩)
  go_upto_region 48 with (go_at_call 6; refine Calls.mono h47 ?_; rintro e w' ⟨rfl, rfl⟩)
  go_upto_region 49 with (go_at_call 6; refine Calls.mono h48 ?_; rintro e w' ⟨rfl, rfl⟩)
  go_upto_region 50 with (go_at_call 6; refine Calls.mono h49 ?_; rintro e w' ⟨rfl, rfl⟩)
  go_upto_region 51 with (go_at_call 5; refine Calls.mono h50 ?_; rintro e w' ⟨rfl, rfl⟩)
  go_upto_region 52 with (go_at_call 5; refine Calls.mono h51 ?_; rintro e w' ⟨rfl, rfl⟩)
  go_upto_region 53 with (go_at_call 5; refine Calls.mono h52 ?_; rintro e w' ⟨rfl, rfl⟩)
  clear h44 h45 h46 h47 h48 h49 h50 h51 h52 c50 hu'
  go_cut [32, 33, 34, 35, 36, 37, 38, 39, 40, 41] from 45 to 331 (fun _ _ _ _ _ _ _ _ s40 s41 wxx => s40 = .bool au ∧ s41 = .bool (validV a0 au a1 s0 s1 f0 f1 n0 n1) ∧ wxx = wc)
  case first =>
    clear h54 hno HT
    cases a0 with
    | false =>
      as_aux_lemma =>
        go_wp2_with fail
        all_goals go_meet
        all_goals exact ⟨by simp [*], by simp [validV, *], rfl⟩
    | true =>
      cases au with
      | false =>
        as_aux_lemma =>
          go_wp2_with fail
          all_goals go_meet
          all_goals exact ⟨by simp [*], by simp [validV, *], rfl⟩
      | true =>
        cases a1 with
        | false =>
          as_aux_lemma =>
            go_wp2_with fail
            all_goals go_meet
            all_goals exact ⟨by simp [*], by simp [validV, *], rfl⟩
        | true =>
          by_cases e1 : (s1 == f1) = true
          ·
            by_cases e2 : (s0 == f0) = true
            ·
              as_aux_lemma =>
                go_wp2_with fail
                all_goals go_meet
                all_goals exact ⟨by simp [*], by simp [validV, *], rfl⟩
            · have e2' : (s0 == f0) = false := by simpa using e2
              clear e2
              by_cases e3 : (s0 == n0) = true
              ·
                as_aux_lemma =>
                  go_wp2_with fail
                  all_goals go_meet
                  all_goals exact ⟨by simp [*], by simp [validV, *], rfl⟩
              · have e3' : (s0 == n0) = false := by simpa using e3
                clear e3
                by_cases e4 : (s0 == -1) = true
                ·
                  as_aux_lemma =>
                    go_wp2_with fail
                    all_goals go_meet
                    all_goals exact ⟨by simp [*], by simp [validV, *], rfl⟩
                · have e4' : (s0 == -1) = false := by simpa using e4
                  clear e4
                  as_aux_lemma =>
                    go_wp2_with fail
                    all_goals go_meet
                    all_goals exact ⟨by simp [*], by simp [validV, *], rfl⟩
          · have e1' : (s1 == f1) = false := by simpa using e1
            clear e1
            by_cases e2 : (s0 == f0) = true
            ·
              by_cases e5 : (s1 == n1) = true
              ·
                as_aux_lemma =>
                  go_wp2_with fail
                  all_goals go_meet
                  all_goals exact ⟨by simp [*], by simp [validV, *], rfl⟩
              · have e5' : (s1 == n1) = false := by simpa using e5
                clear e5
                by_cases e6 : (s1 == -1) = true
                ·
                  as_aux_lemma =>
                    go_wp2_with fail
                    all_goals go_meet
                    all_goals exact ⟨by simp [*], by simp [validV, *], rfl⟩
                · have e6' : (s1 == -1) = false := by simpa using e6
                  clear e6
                  as_aux_lemma =>
                    go_wp2_with fail
                    all_goals go_meet
                    all_goals exact ⟨by simp [*], by simp [validV, *], rfl⟩
            · have e2' : (s0 == f0) = false := by simpa using e2
              clear e2
              as_aux_lemma =>
                go_wp2_with fail
                all_goals go_meet
                all_goals exact ⟨by simp [*], by simp [validV, *], rfl⟩
  case rest =>
  obtain ⟨rfl, rfl, rfl⟩ := hcut
  generalize validV a0 au a1 s0 s1 f0 f1 n0 n1 = ok at *
  have hS : S < wc.heap.size := lt_of_cell HT.out.ch
  have HBW : Hid (Below w.heap.size w wc) := HT.out.bel
  go_upto_region 56 with (go_at_call 7; refine Calls.mono h54 ?_; rintro e wy ⟨rfl, hvw⟩; obtain ⟨r3, hbe⟩ := tw_after HT.out hvw hbp.out; have HVW : Hid (Vw wc wp S U N P R wy) := hvw; have HBE : Hid (Below w.heap.size w wy) := hbe; clear hvw hbe)
  clear h54 hbp HT r2
  cases au with
  | true =>
    go_wp2_with fail
    go_ret
    exact ⟨rfl, HBE.out⟩
  | false =>
    have HNB : Hid (nbs (P (k + 1) u) N = []) := hno.out rfl
    have hSy : S < wy.heap.size := lt_of_cell HVW.out.up
    have hBy : B < wy.heap.size := lt_of_cell r3
    have h60 : Hid (∀ (T : Nat) (wz : World), St S U N P R wz → Calls Ybad.prog 9 #[.pointer (some ⟨S, 0, none⟩), .int .i32 u, .int .i64 ((k : Int) + 1), .slice (some ⟨T, 0, none⟩) 1 1] wz fun e w' => e = .returned (.slice (some ⟨T, 0, none⟩) 1 1) ∧ ∃ m, w' = wz.drewN m) := fun T wz hst => by
      rw [show ((k : Int) + 1) = ((k + 1 : Nat) : Int) from by omega]
      exact edit_any S U N P R u (k + 1) T wz hst hu1 (by omega) (by omega) HNB.out
    clear hno
    go_upto_region 61 with (go_at_call 9; refine (h60.out _ _ ((HVW.out.alloc hSy _).alloc (by simp; omega) _).st).mono ?_; rintro e w' ⟨rfl, m, rfl⟩)
    go_quiet (fail)
    go_wp2_with fail
    go_ret
    exact ⟨rfl, below_drewN (below_drewN ((HBE.out.alloc HBE.out.size _).alloc (by have := HBE.out.size; simp; omega) _) _) _⟩
end Go.Proofs.YbulkdogoDoor

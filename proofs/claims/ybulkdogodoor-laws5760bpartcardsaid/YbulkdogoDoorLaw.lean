import Derived.Test.YbulkdogoDoorTail
import Derived.Test.YbulkdogoDoorZero
import Derived.Below
import Derived.Deep.CutRange
import Derived.Deep.AppendLies
namespace Go.Proofs.YbulkdogoDoor
open Go.RowKit Pl

theorem make28 (N : Nat) (hN : N ≤ 64) (w : World) : (Instr.makeSlice 28 (.int .i32 N) (.int .i32 N)).run Ybad.prog w = .ok (.slice (some ⟨w.heap.size, 0, none⟩) N N) (w.alloc (.cells (madeCells #[.slice none 0 0] N) 30)) := by
  have hr := run_make (P := Ybad.prog) w 28 30 Ybad.t30 (.slice none 0 0) (by kernel_rfl) (by kernel_rfl) (by kernel_rfl) .i32 .i32 N N (by omega) (Int.le_refl _) (by show ((24 : Nat) : Int) * _ ≤ _; omega) (by omega)
  simp only [Int.toNat_natCast] at hr
  rw [show Ybad.t30.size = 1 from by kernel_rfl, Nat.mul_one] at hr
  exact hr
theorem und29 : Ybad.prog.underlying 29 = some (.slice 21) := by kernel_rfl
theorem inf21 : Ybad.prog.info? 21 = some Ybad.t21 := by kernel_rfl
theorem zer21 : Ybad.t21.zero = some (.int .i32 0) := by kernel_rfl
theorem siz21 : Ybad.t21.size = 1 := by kernel_rfl
theorem byt21 : Ybad.t21.bytes = 4 := by kernel_rfl
theorem und30 : Ybad.prog.underlying 30 = some (.slice 32) := by kernel_rfl
theorem inf32 : Ybad.prog.info? 32 = some Ybad.t32 := by kernel_rfl
theorem zer32 : Ybad.t32.zero = some (.agg #[.int .i64 0, .slice none 0 0, .slice none 0 0]) := by kernel_rfl
theorem siz32 : Ybad.t32.size = 3 := by kernel_rfl
theorem byt32 : Ybad.t32.bytes = 56 := by kernel_rfl
theorem hid {p : Prop} (h : p) : Hid p := h
theorem runZ {Z : Array Value} (hz : Ybad.t25.zero = some (.agg Z)) (w : World) : Sem.run Ybad.prog (zeroValue 25) w = .ok (.agg Z) w := by
  simp [zeroValue, hz, go_sem]

set_option maxHeartbeats 1000000 in
set_option maxRecDepth 100000 in
theorem law_any (s : ByteArray) (nv : Nat) (o : Option Addr) (n cap : Nat) (uv lv : Nat) (gr : Bool) (w : World) (hnv : nv < 256) (huv : uv < 256) (hlv : lv < 256) (hn : n ≤ 1048576)
    (hlk : ∀ i, i < n → ∃ x : Addr, o = some x ∧ x.block < w.heap.size ∧ ∃ A B L : Nat, ∃ r : Bool, A < 256 ∧ B < 256 ∧ L < 256 ∧ w.cell? (x.add (i * 4)) = some (.int .u8 A) ∧ w.cell? ⟨(x.add (i * 4)).block, (x.add (i * 4)).off + 1, none⟩ = some (.int .u8 B) ∧ w.cell? ⟨(x.add (i * 4)).block, (x.add (i * 4)).off + 2, none⟩ = some (.int .u8 L) ∧ w.cell? ⟨(x.add (i * 4)).block, (x.add (i * 4)).off + 3, none⟩ = some (.bool r)) :
    Calls Ybad.prog 3 #[.string s, .int .u8 nv, .slice o n cap, .int .u8 uv, .int .u8 lv, .bool gr] w fun e w' => e = .returned (.bool true) ∧ Below w.heap.size w w' := by
  obtain ⟨Z, hz, hzs, hza⟩ := zero25
  have HZ : Hid (∀ i, i < 16384 → Z[i]? = some (.bool false)) := hza
  have HLK : Hid (∀ i, i < n → ∃ x : Addr, o = some x ∧ x.block < w.heap.size ∧ ∃ A B L : Nat, ∃ r : Bool, A < 256 ∧ B < 256 ∧ L < 256 ∧ w.cell? (x.add (i * 4)) = some (.int .u8 A) ∧ w.cell? ⟨(x.add (i * 4)).block, (x.add (i * 4)).off + 1, none⟩ = some (.int .u8 B) ∧ w.cell? ⟨(x.add (i * 4)).block, (x.add (i * 4)).off + 2, none⟩ = some (.int .u8 L) ∧ w.cell? ⟨(x.add (i * 4)).block, (x.add (i * 4)).off + 3, none⟩ = some (.bool r)) := hlk
  have hrz := runZ hz
  clear hza hlk hz
  have hn' : ¬ (1048576 : Int) < (n : Int) := by omega
  obtain ⟨N, hN⟩ : ∃ N : Nat, N = 1 + nv % 64 := ⟨_, rfl⟩
  have hNe : (1 : Int) + (nv : Int) % 64 = (N : Int) := by omega
  have hN1 : 1 ≤ N := by omega
  have hN2 : N ≤ 64 := by omega
  clear hN
  have hmk := make28 N hN2
  go_enter Ybad.func3, Ybad.ntmps3
  go_wp2
  clear hrz hzs
  go_loopw [55] (fun t wr => ∃ i : Nat, i ≤ n ∧ t = .int .i64 i ∧ Below w.heap.size w wr ∧ ∃ P R, MB wr w.heap.size P ∧ MB wr (w.heap.size + 1) R ∧ Dg P ∧ Dg R) (fun t _ => n - (intOf t).toNat)
  case atStart => exact ⟨0, Nat.zero_le _, rfl, ((Below.refl _ _).alloc (Nat.le_refl _) _).alloc (by simp) _, _, _, (MB.made HZ.out rfl).alloc _, MB.made HZ.out (by simp), fun _ _ => rfl, fun _ _ => rfl⟩
  case round =>
    obtain ⟨i, hi, rfl, hbe, P, R, hP, hR, hdP, hdR⟩ := hrel
    have HP : Hid (MB wr w.heap.size P) := hP
    have HR : Hid (MB wr (w.heap.size + 1) R) := hR
    have HBE : Hid (Below w.heap.size w wr) := hbe
    have HDP : Hid (Dg P) := hdP
    have HDR : Hid (Dg R) := hdR
    have hsz := hR.lt
    have hsz0 := hP.lt
    clear hP hR hbe hdP hdR
    by_cases hlt : i < n
    · obtain ⟨x, rfl, hx, A, B, L, r, hA, hB, hL, c0, c1, c2, c3⟩ := HLK.out i hlt
      have hx' : (x.add (i * 4)).block < w.heap.size := by
        unfold Addr.add
        split
        · exact hx
        · exact hx
      replace c0 := (HBE.out.cell (p := x.add (i * 4)) hx').trans c0
      replace c1 := (HBE.out.cell (p := ⟨(x.add (i * 4)).block, (x.add (i * 4)).off + 1, none⟩) hx').trans c1
      replace c2 := (HBE.out.cell (p := ⟨(x.add (i * 4)).block, (x.add (i * 4)).off + 2, none⟩) hx').trans c2
      replace c3 := (HBE.out.cell (p := ⟨(x.add (i * 4)).block, (x.add (i * 4)).off + 3, none⟩) hx').trans c3
      clear hx'
      obtain ⟨a, ha⟩ : ∃ a : Nat, a = A % N := ⟨_, rfl⟩
      obtain ⟨b, hb⟩ : ∃ b : Nat, b = B % N := ⟨_, rfl⟩
      obtain ⟨l, hl⟩ : ∃ l : Nat, l = 1 + L % 3 := ⟨_, rfl⟩
      have ha1 : a < N := by rw [ha]; exact Nat.mod_lt _ (by omega)
      have hb1 : b < N := by rw [hb]; exact Nat.mod_lt _ (by omega)
      have hl1 : l < 4 := by omega
      have ea : (A : Int) % (N : Int) = (a : Int) := by rw [ha]; rfl
      have eb : (B : Int) % (N : Int) = (b : Int) := by rw [hb]; rfl
      have el : (1 : Int) + (L : Int) % 3 = (l : Int) := by rw [hl]; omega
      clear ha hb hl
      by_cases hab : a = b
      · subst hab
        go_wp2
        go_roundw
        case rel => exact ⟨i + 1, by omega, by go_num, HBE.out.alloc (by omega) _, P, R, HP.out.alloc _, HR.out.alloc _, HDP.out, HDR.out⟩
        case measure => simp [intOf]; omega
      · have habI : ((a : Int) == (b : Int)) = false := beq_eq_false_iff_ne.2 (by omega)
        have hne : l * 4096 + a * 64 + b ≠ l * 4096 + b * 64 + a := by omega
        cases r with
        | true =>
          have d1 := HR.out.mat l a b hl1 (by omega) (by omega)
          have d2 := HR.out.mat l b a hl1 (by omega) (by omega)
          have hfz := HR.out.fz
          go_wp2
          go_roundw
          case rel => exact ⟨i + 1, by omega, by go_num, ((HBE.out.setCell (p := ⟨w.heap.size + 1, _, none⟩) (Nat.le_succ _) _).setCell (p := ⟨w.heap.size + 1, _, none⟩) (Nat.le_succ _) _).alloc (by simp [World.setCell]; omega) _, P, _, ((HP.out.other (a := ⟨w.heap.size + 1, _, none⟩) (Nat.succ_ne_self _) _).other (a := ⟨w.heap.size + 1, _, none⟩) (Nat.succ_ne_self _) _).alloc _, ((HR.out.set l a b hl1 (by omega) (by omega)).set l b a hl1 (by omega) (by omega)).alloc _, HDP.out, (HDR.out.mset hab).mset (Ne.symm hab)⟩
          case measure => simp [intOf]; omega
        | false =>
          have d1 := HP.out.mat l a b hl1 (by omega) (by omega)
          have d2 := HP.out.mat l b a hl1 (by omega) (by omega)
          have hfz := HP.out.fz
          go_wp2
          go_roundw
          case rel => exact ⟨i + 1, by omega, by go_num, ((HBE.out.setCell (p := ⟨w.heap.size, _, none⟩) (Nat.le_refl _) _).setCell (p := ⟨w.heap.size, _, none⟩) (Nat.le_refl _) _).alloc (by simp [World.setCell]; omega) _, _, R, ((HP.out.set l a b hl1 (by omega) (by omega)).set l b a hl1 (by omega) (by omega)).alloc _, ((HR.out.other (a := ⟨w.heap.size, _, none⟩) (Nat.succ_ne_self _).symm _).other (a := ⟨w.heap.size, _, none⟩) (Nat.succ_ne_self _).symm _).alloc _, (HDP.out.mset hab).mset (Ne.symm hab), HDR.out⟩
          case measure => simp [intOf]; omega
    · obtain rfl : i = n := by omega
      clear hn hn' HLK HZ
      have HROW : Hid ((wr.alloc (.cells (madeCells #[.slice none 0 0] N) 30)).rowIs wr.heap.size 30 N (fun _ => .slice none 0 0)) := World.rowIs_made _ _ _ _
      obtain ⟨U, hU⟩ : ∃ U, U = wr.heap.size := ⟨_, rfl⟩
      have HI : Hid (I2 w P R N U 0 (fun _ => .slice none 0 0) (wr.alloc (.cells (madeCells #[.slice none 0 0] N) 30))) := ⟨HBE.out.alloc HBE.out.size _, HP.out.alloc _, HR.out.alloc _, by omega, by rw [hU]; exact HROW.out, fun q hq => absurd hq (Nat.not_lt_zero _), fun _ _ _ => rfl⟩
      go_upto_region 19 with fail
      rw [← hU]
      clear HROW HBE HP HR hsz hsz0 hU hmk
      generalize wr.alloc (.cells (madeCells #[.slice none 0 0] N) 30) = wa at HI
      go_wp2
      go_loopw [22] (fun t wr => ∃ p : Nat, p ≤ N ∧ t = .int .i32 p ∧ ∃ f, I2 w P R N U p f wr) (fun t _ => N - (intOf t).toNat)
      case atStart => exact ⟨0, Nat.zero_le _, rfl, _, HI.out⟩
      case round =>
        clear HI
        obtain ⟨p, hp, rfl, f, hi2⟩ := hrel
        obtain ⟨wp, hwp⟩ : ∃ wp, wp = wr := ⟨_, rfl⟩
        subst hwp
        have HI2 : Hid (I2 w P R N U p f wp) := hi2
        clear hi2
        by_cases hpN : p < N
        · have HI3 : Hid (I3 w P R N U p f wp 1 (.slice none 0 0) [] wp) := HI2.out.start hpN
          go_wp2
          go_loopw [23] (fun t wr => ∃ j : Nat, 1 ≤ j ∧ j ≤ 4 ∧ t = .int .i64 j ∧ ∃ v xs, I3 w P R N U p f wp j v xs wr) (fun t _ => 4 - (intOf t).toNat)
          case atStart => exact ⟨1, Nat.le_refl _, by omega, rfl, _, _, HI3.out⟩
          case round =>
            clear HI3
            obtain ⟨j, hj1, hj4, rfl, v, xs, hi3⟩ := hrel
            obtain ⟨ws, hws⟩ : ∃ ws, ws = wr := ⟨_, rfl⟩
            subst hws
            have HI3 : Hid (I3 w P R N U p f wp j v xs ws) := hi3
            clear hi3
            by_cases hj : j < 4
            · have hj3 : (j : Int) ≤ 3 := by omega
              go_wp2
              go_loopw [24, 25, 26] (fun nb rs t wr => ∃ q : Nat, q ≤ N ∧ t = .int .i32 q ∧ I4 P R p j ws q nb rs wr) (fun _ _ t _ => N - (intOf t).toNat)
              case atStart => exact ⟨0, Nat.zero_le _, rfl, I4.start⟩
              case round =>
                obtain ⟨q, hq, rfl, hi4⟩ := hrel
                obtain ⟨on, cn, rfl⟩ := owns_form hi4.on
                obtain ⟨orr, cr, rfl⟩ := owns_form hi4.orr
                have HBQ : Hid (Below ws.heap.size ws wr) := hi4.bel
                have HOF := hid hi4.on
                have HOR := hid hi4.orr
                have HAP := hid hi4.ap
                have hU := HI2.out.row.lt
                have hgt := HI2.out.gt
                have hs3 := HI3.out.sz
                have hs4 := hi4.bel.size
                have hln := nbs_len (P j p) q
                have hlr := nbs_len (R j p) q
                clear hi4
                by_cases hqN : q < N
                · have cP := (HI3.out.mp.below HBQ.out (by omega)).mat j p q (by omega) (by omega) (by omega)
                  have cR := (HI3.out.mr.below HBQ.out (by omega)).mat j p q (by omega) (by omega) (by omega)
                  cases hP1 : P j p q with
                  | false =>
                    rw [hP1] at cP
                    have HP1 : Hid (P j p q = false) := hP1
                    cases hR1 : R j p q with
                    | false =>
                        rw [hR1] at cR
                        have HR1 : Hid (R j p q = false) := hR1
                        clear hP1 hR1
                        go_wp2
                        go_roundw
                        case rel => first | exact ⟨q + 1, by omega, by go_num, ⟨HBQ.out, owns_off HP1.out HOF.out, owns_off HR1.out HOR.out, HAP.out⟩⟩ | ((repeat apply Exists.intro); refine ⟨?_, rfl⟩; exact ⟨q + 1, by omega, by go_num, ⟨HBQ.out, owns_off HP1.out HOF.out, owns_off HR1.out HOR.out, HAP.out⟩⟩)
                        case measure => simp [intOf]; omega
                    | true =>
                        rw [hR1] at cR
                        have HR1 : Hid (R j p q = true) := hR1
                        clear hP1 hR1
                        go_wp2_with (first | (at_builtin; refine wpList_append_lies _ rfl (.tmp 138) (.tmp 140) 29 rfl ws.heap.size 21 Ybad.t21 (.int .i32 0) 1 4 und29 inf21 zer21 siz21 byt21 rfl (by decide) _ _ _ rfl (HOR.out.alloc _) ⟨wr.heap.size, 0, none⟩ 1 1 [.int .i32 q] rfl rfl (cell_one_new _ _ _) (fun x hx => by simp at hx; subst hx; rfl) (by decide) (by unfold maxLen; omega) (by omega) (by simp; omega) (wr.heap.size + 1) (by simp) ?_; intro g cg w1 hown hgrow hat _; obtain ⟨hb1, ho1, hn1⟩ := owns_app HBQ.out HOR.out HOF.out (fun x h h' => HAP.out x h' h) hgrow hat; have HOF1 := hid hown; have HB1 := hid hb1; have HO1 := hid ho1; have HN1 := hid hn1; clear hown hgrow hat hb1 ho1 hn1))
                        go_roundw
                        case rel => first | exact ⟨q + 1, by omega, by go_num, ⟨HB1.out, owns_off HP1.out HO1.out, owns_on HR1.out HOF1.out, fun b hb e => by cases e; exact HN1.out hb⟩⟩ | ((repeat apply Exists.intro); refine ⟨?_, rfl⟩; exact ⟨q + 1, by omega, by go_num, ⟨HB1.out, owns_off HP1.out HO1.out, owns_on HR1.out HOF1.out, fun b hb e => by cases e; exact HN1.out hb⟩⟩)
                        case measure => simp [intOf]; omega
                  | true =>
                    rw [hP1] at cP
                    have HP1 : Hid (P j p q = true) := hP1
                    cases hR1 : R j p q with
                    | false =>
                        rw [hR1] at cR
                        have HR1 : Hid (R j p q = false) := hR1
                        clear hP1 hR1
                        go_wp2_with (first | (at_builtin; refine wpList_append_lies _ rfl (.tmp 127) (.tmp 129) 29 rfl ws.heap.size 21 Ybad.t21 (.int .i32 0) 1 4 und29 inf21 zer21 siz21 byt21 rfl (by decide) _ _ _ rfl (HOF.out.alloc _) ⟨wr.heap.size, 0, none⟩ 1 1 [.int .i32 q] rfl rfl (cell_one_new _ _ _) (fun x hx => by simp at hx; subst hx; rfl) (by decide) (by unfold maxLen; omega) (by omega) (by simp; omega) (wr.heap.size + 1) (by simp) ?_; intro g cg w1 hown hgrow hat _; obtain ⟨hb1, ho1, hn1⟩ := owns_app HBQ.out HOF.out HOR.out HAP.out hgrow hat; have HOF1 := hid hown; have HB1 := hid hb1; have HO1 := hid ho1; have HN1 := hid hn1; have hs1 := hb1.size; have c1 := (HI3.out.mr.below hb1 (by omega)).mat j p q (by omega) (by omega) (by omega); rw [HR1.out] at c1; clear hown hgrow hat hb1 ho1 hn1))
                        go_roundw
                        case rel => first | exact ⟨q + 1, by omega, by go_num, ⟨HB1.out, owns_on HP1.out HOF1.out, owns_off HR1.out HO1.out, fun b hb => by cases hb; exact HN1.out⟩⟩ | ((repeat apply Exists.intro); refine ⟨?_, rfl⟩; exact ⟨q + 1, by omega, by go_num, ⟨HB1.out, owns_on HP1.out HOF1.out, owns_off HR1.out HO1.out, fun b hb => by cases hb; exact HN1.out⟩⟩)
                        case measure => simp [intOf]; omega
                    | true =>
                        rw [hR1] at cR
                        have HR1 : Hid (R j p q = true) := hR1
                        clear hP1 hR1
                        go_wp2_with (first | (at_builtin; refine wpList_append_lies _ rfl (.tmp 127) (.tmp 129) 29 rfl ws.heap.size 21 Ybad.t21 (.int .i32 0) 1 4 und29 inf21 zer21 siz21 byt21 rfl (by decide) _ _ _ rfl (HOF.out.alloc _) ⟨wr.heap.size, 0, none⟩ 1 1 [.int .i32 q] rfl rfl (cell_one_new _ _ _) (fun x hx => by simp at hx; subst hx; rfl) (by decide) (by unfold maxLen; omega) (by omega) (by simp; omega) (wr.heap.size + 1) (by simp) ?_; intro g cg w1 hown hgrow hat _; obtain ⟨hb1, ho1, hn1⟩ := owns_app HBQ.out HOF.out HOR.out HAP.out hgrow hat; have HOF1 := hid hown; have HB1 := hid hb1; have HO1 := hid ho1; have HN1 := hid hn1; have hs1 := hb1.size; have c1 := (HI3.out.mr.below hb1 (by omega)).mat j p q (by omega) (by omega) (by omega); rw [HR1.out] at c1; clear hown hgrow hat hb1 ho1 hn1) | (at_builtin; refine wpList_append_lies _ rfl (.tmp 138) (.tmp 140) 29 rfl ws.heap.size 21 Ybad.t21 (.int .i32 0) 1 4 und29 inf21 zer21 siz21 byt21 rfl (by decide) _ _ _ rfl (HO1.out.alloc _) ⟨w1.heap.size, 0, none⟩ 1 1 [.int .i32 q] rfl rfl (cell_one_new _ _ _) (fun x hx => by simp at hx; subst hx; rfl) (by decide) (by unfold maxLen; omega) (by omega) (by simp; omega) (w1.heap.size + 1) (by simp) ?_; intro g2 cg2 w2 hown hgrow hat _; obtain ⟨hb1, ho1, hn1⟩ := owns_app HB1.out HO1.out HOF1.out (fun x h h' => HN1.out (by cases h'; exact h)) hgrow hat; have HOF2 := hid hown; have HB2 := hid hb1; have HO2 := hid ho1; have HN2 := hid hn1; clear hown hgrow hat hb1 ho1 hn1))
                        go_roundw
                        case rel => first | exact ⟨q + 1, by omega, by go_num, ⟨HB2.out, owns_on HP1.out HO2.out, owns_on HR1.out HOF2.out, fun b hb e => HN2.out (by cases e; exact hb)⟩⟩ | ((repeat apply Exists.intro); refine ⟨?_, rfl⟩; exact ⟨q + 1, by omega, by go_num, ⟨HB2.out, owns_on HP1.out HO2.out, owns_on HR1.out HOF2.out, fun b hb e => HN2.out (by cases e; exact hb)⟩⟩)
                        case measure => simp [intOf]; omega
                · obtain rfl : N = q := by omega
                  have hpr := pres_of (P := P) (R := R) (N := N) (p := p) hj1
                  have HPR : Hid (presB P R N p j = (decide (0 < (nbs (P j p) N).length) || decide (0 < (nbs (R j p) N).length))) := hpr
                  clear hpr
                  by_cases hk : 0 < (nbs (P j p) N).length ∨ 0 < (nbs (R j p) N).length
                  · have HY : Hid (presB P R N p j = true) := HPR.out.trans (by simpa using hk)
                    have hrow := HI3.out.row.of_block (HBQ.out.block U (by omega))
                    have d0 := hrow.cell hpN
                    rw [if_pos rfl] at d0
                    have df := hrow.frozen p
                    obtain ⟨ov, cv, hv⟩ := owns_form HI3.out.own
                    subst hv
                    have hlp := nbs_len (presB P R N p) j
                    clear hrow
                    by_cases hk1 : 0 < (nbs (P j p) N).length
                    · have hk1' : (0 : Int) < ((nbs (P j p) N).length : Int) := by omega
                      go_wp2_with (first | (at_builtin; refine wpList_append_lies _ rfl (.tmp 155) (.tmp 160) 30 rfl wp.heap.size 32 Ybad.t32 (.agg #[.int .i64 0, .slice none 0 0, .slice none 0 0]) 3 56 und30 inf32 zer32 siz32 byt32 rfl (by decide) _ _ _ rfl ((owns_below HI3.out.own HBQ.out).alloc _) ⟨wr.heap.size, 0, none⟩ 1 1 [.int .i64 j, .slice on (nbs (P j p) N).length cn, .slice orr (nbs (R j p) N).length cr] rfl rfl (cell_three _ _ _ _ _) (fun x hx => by simp at hx; rcases hx with rfl | rfl | rfl <;> rfl) (by decide) (by unfold maxLen; omega) (by omega) (by simp; omega) (wr.heap.size + 1) (by simp) ?_; intro g cg w1 hown hgrow hat hlt; obtain ⟨d1, d2, hI⟩ := I3.keep HI2.out HI3.out hpN HBQ.out (owns_IL HOF.out) (owns_IL HOR.out) HY.out hown hgrow; have HI5 := hid hI; clear hown hgrow hat hI d0 df))
                      go_roundw
                      case rel => first | exact ⟨j + 1, by omega, by omega, by go_num, _, _, HI5.out⟩ | ((repeat apply Exists.intro); refine ⟨?_, rfl⟩; exact ⟨j + 1, by omega, by omega, by go_num, _, _, HI5.out⟩)
                      case measure => simp [intOf]; omega
                    · have hk1' : ¬ (0 : Int) < ((nbs (P j p) N).length : Int) := by omega
                      have hk2' : (0 : Int) < ((nbs (R j p) N).length : Int) := by omega
                      go_wp2_with (first | (at_builtin; refine wpList_append_lies _ rfl (.tmp 155) (.tmp 160) 30 rfl wp.heap.size 32 Ybad.t32 (.agg #[.int .i64 0, .slice none 0 0, .slice none 0 0]) 3 56 und30 inf32 zer32 siz32 byt32 rfl (by decide) _ _ _ rfl ((owns_below HI3.out.own HBQ.out).alloc _) ⟨wr.heap.size, 0, none⟩ 1 1 [.int .i64 j, .slice on (nbs (P j p) N).length cn, .slice orr (nbs (R j p) N).length cr] rfl rfl (cell_three _ _ _ _ _) (fun x hx => by simp at hx; rcases hx with rfl | rfl | rfl <;> rfl) (by decide) (by unfold maxLen; omega) (by omega) (by simp; omega) (wr.heap.size + 1) (by simp) ?_; intro g cg w1 hown hgrow hat hlt; obtain ⟨d1, d2, hI⟩ := I3.keep HI2.out HI3.out hpN HBQ.out (owns_IL HOF.out) (owns_IL HOR.out) HY.out hown hgrow; have HI5 := hid hI; clear hown hgrow hat hI d0 df))
                      go_roundw
                      case rel => first | exact ⟨j + 1, by omega, by omega, by go_num, _, _, HI5.out⟩ | ((repeat apply Exists.intro); refine ⟨?_, rfl⟩; exact ⟨j + 1, by omega, by omega, by go_num, _, _, HI5.out⟩)
                      case measure => simp [intOf]; omega
                  · have HNO : Hid (presB P R N p j = false) := HPR.out.trans (by simpa using hk)
                    have hk1' : (nbs (P j p) N).length = 0 := by omega
                    have hk2' : (nbs (R j p) N).length = 0 := by omega
                    go_wp2
                    go_roundw
                    case rel => first | exact ⟨j + 1, by omega, by omega, by go_num, _, _, HI3.out.skip hU hgt HBQ.out HNO.out⟩ | ((repeat apply Exists.intro); refine ⟨?_, rfl⟩; exact ⟨j + 1, by omega, by omega, by go_num, _, _, HI3.out.skip hU hgt HBQ.out HNO.out⟩)
                    case measure => simp [intOf]; omega
            · obtain rfl : j = 4 := by omega
              go_wp2
              go_roundw
              case rel => exact ⟨p + 1, by omega, by go_num, _, HI3.out.done HI2.out hpN⟩
              case measure => simp [intOf]; omega
        · obtain rfl : N = p := by omega
          go_upto_region 35 with fail
          rename_i K hK
          exact law_tail s uv lv gr w wp N U P R f huv hlv hN1 hN2 HI2 HDP HDR _ hK
end Go.Proofs.YbulkdogoDoor

import Derived.Test.YbulkdogaDoorWalks
namespace Go.Proofs.YbulkdogaDoor
open Go.RowKit Fl
attribute [local go_sem] call6
attribute [local go_sem] call14
attribute [local go_sem] bits64
attribute [local go_sem] frombits64

set_option maxHeartbeats 400000 in
set_option maxRecDepth 100000 in
theorem fromDec_any (z : Int) (T q : Nat) (sc : Nat) (w : World) (hz1 : -9007199254740992 ≤ z) (hz2 : z ≤ 9007199254740992) (hsc : sc < 23) (hT : w.cell? ⟨0, sc, none⟩ = some (.float .f64 T))
    (hq : floatBits .quo .f64 (floatOfInt .f64 z) T = some q) :
    Calls Ybad.prog 11 #[.int .u64 (z % 18446744073709551616), .int .i64 sc] w fun e w' => e = .returned (.float .f64 q) ∧ w' = w := by
  have hquo := fun w => run_float_arith (P := Ybad.prog) w .quo 22 .f64 (floatOfInt .f64 z) T q hq
  have hw : IntKind.i64.wrap (z % 18446744073709551616) = z := by rw [IntKind.wrap_i64]; omega
  go_enter Ybad.func11, Ybad.ntmps11
  go_wp2
  go_ret
  exact ⟨rfl, rfl⟩

set_option maxHeartbeats 400000 in
set_option maxRecDepth 100000 in
theorem mant_small (v T q r sc : Nat) (s : Bool) (z : Int) (w : World) (hr : r < 9223372036854775808) (hR : bitsRnd r < 9223372036854775808) (hz1 : -9007199254740992 ≤ z) (hz2 : z ≤ 9007199254740992) (hsc : sc < 23) (hT : w.cell? ⟨0, sc, none⟩ = some (.float .f64 T))
    (hm : floatBits .mul .f64 v T = some (W s r)) (ho : FloatKind.f64.format.order (W false (bitsRnd r)) 4845873199050653696 = some .lt ∨ FloatKind.f64.format.order (W false (bitsRnd r)) 4845873199050653696 = some .eq)
    (hc : floatToIntVal .f64 (W s (bitsRnd r)) .i64 = some z) (hq : floatBits .quo .f64 (floatOfInt .f64 z) T = some q) :
    Calls Ybad.prog 5 #[.float .f64 v, .int .i64 sc] w fun e w' => e = .returned (.tuple #[.int .u64 (z % 18446744073709551616), .bool ((q : Int) == (v : Int)), .bool true]) ∧ w' = w := by
  have hmul := fun w => run_float_arith (P := Ybad.prog) w .mul 22 .f64 v T (W s r) hm
  have hcv := fun w => run_convert_float_int (P := Ybad.prog) w 22 2 .f64 .i64 (W s (bitsRnd r)) z (by rw [Ybad.underlying22]; rfl) Ybad.underlying2 hc
  have hwr : IntKind.u64.wrap z = z % 18446744073709551616 := IntKind.wrap_u64 z
  have Hq : Hid (floatBits .quo .f64 (floatOfInt .f64 z) T = some q) := hq
  clear hm hc hq
  rcases ho with ho | ho
  all_goals
    go_enter Ybad.func5, Ybad.ntmps5
    go_wp2_with (first | (go_at_call 10; refine (round_any s r _ hr).mono ?_; rintro e w' ⟨rfl, rfl⟩) | (go_at_call 8; refine (abs_any s _ _ hR).mono ?_; rintro e w' ⟨rfl, rfl⟩) | (go_at_call 11; refine (fromDec_any z T q sc _ hz1 hz2 hsc (by assumption) Hq.out).mono ?_; rintro e w' ⟨rfl, rfl⟩) | go_in)
    go_ret3
    exact ⟨rfl, rfl⟩

set_option maxHeartbeats 400000 in
set_option maxRecDepth 100000 in
theorem mant_big (v T r sc : Nat) (s : Bool) (w : World) (hr : r < 9223372036854775808) (hR : bitsRnd r < 9223372036854775808) (hsc : sc < 23) (hT : w.cell? ⟨0, sc, none⟩ = some (.float .f64 T))
    (hm : floatBits .mul .f64 v T = some (W s r)) (ho : FloatKind.f64.format.order (W false (bitsRnd r)) 4845873199050653696 = some .gt) :
    Calls Ybad.prog 5 #[.float .f64 v, .int .i64 sc] w fun e w' => e = .returned (.tuple #[.int .u64 0, .bool false, .bool false]) ∧ w' = w := by
  have hmul := fun w => run_float_arith (P := Ybad.prog) w .mul 22 .f64 v T (W s r) hm
  clear hm
  go_enter Ybad.func5, Ybad.ntmps5
  go_wp2_with (first | (go_at_call 10; refine (round_any s r _ hr).mono ?_; rintro e w' ⟨rfl, rfl⟩) | (go_at_call 8; refine (abs_any s _ _ hR).mono ?_; rintro e w' ⟨rfl, rfl⟩))
  go_ret3
  exact ⟨rfl, rfl⟩

theorem bitsRnd_nan (r : Nat) (h : 9218868437227405312 < r) : bitsRnd r = r := by
  unfold bitsRnd
  rw [if_neg (by omega), if_neg (by omega), if_neg (by omega)]

set_option maxHeartbeats 400000 in
set_option maxRecDepth 100000 in
theorem mant_nan (v T sc : Nat) (w : World) (hsc : sc < 23) (hT : w.cell? ⟨0, sc, none⟩ = some (.float .f64 T)) (hm : floatBits .mul .f64 v T = none) :
    Calls Ybad.prog 5 #[.float .f64 v, .int .i64 sc] w fun e w' => e = .returned (.tuple #[.int .u64 0, .bool false, .bool false]) ∧ ∃ n, w' = w.drewN n := by
  have hmul := run_float_nan .mul 22 v T (by simp) hm
  have hord := fun T => order_nan (nanR T) 4845873199050653696 (nanR_gt T) (nanR_lt T) false
  have hb := fun T => bitsRnd_nan (nanR T) (nanR_gt T)
  clear hm
  go_enter Ybad.func5, Ybad.ntmps5
  go_wp2_with (first | (go_at_call 10; refine (round_any _ _ _ (nanR_lt _)).mono ?_; rw [hb]; rintro e w' ⟨rfl, rfl⟩) | (go_at_call 8; refine (abs_any _ _ _ (nanR_lt _)).mono ?_; rintro e w' ⟨rfl, rfl⟩))
  go_ret3
  exact ⟨rfl, 1, rfl⟩

/-! ### the law -/
def tab (k : Nat) : Nat := [4607182418800017408, 4621819117588971520, 4636737291354636288, 4652007308841189376, 4666723172467343360, 4681608360884174848, 4696837146684686336, 4711630319722168320, 4726483295884279808, 4741671816366391296, 4756540486875873280, 4771362005757984768, 4786511204640096256, 4801453603149578240, 4816244402031689728, 4831355200913801216, 4846369599423283200, 4861130398305394688, 4876203697187506176, 4891288408196988160, 4906019910204099648, 4921056587992461136, 4936209963552724370].getD k 0
theorem tab_succ : ∀ k < 22, floatBits .mul .f64 (tab k) 4621819117588971520 = some (tab (k + 1)) := by decide +kernel

set_option maxHeartbeats 1000000 in
set_option maxRecDepth 100000 in
theorem law_nan (v sc : Nat) (a : Int) (w : World) (hsc : sc < 23) (hsa : a % 18446744073709551616 % 23 = sc) (hT : w.cell? ⟨0, sc, none⟩ = some (.float .f64 (tab sc))) (hm : floatBits .mul .f64 v (tab sc) = none) :
    Calls Ybad.prog 3 #[.float .f64 v, .int .i64 a] w fun e w' => e = .returned (.bool true) ∧ ∃ n, w' = w.drewN n := by
  have hw1 : IntKind.u64.wrap a = a % 18446744073709551616 := IntKind.wrap_u64 a
  have hmul := run_float_nan .mul 22 v (tab sc) (by simp) hm
  have Hm : Hid (floatBits .mul .f64 v (tab sc) = none) := hm
  clear hm
  go_enter Ybad.func3, Ybad.ntmps3
  go_wp2_with fail
  go_loop [6, 7] (fun t i => ∃ k : Nat, k ≤ sc ∧ i = .int .i64 k ∧ t = .float .f64 (tab k)) (fun _ i => sc - (intOf i).toNat)
  case atStart => exact ⟨0, Nat.zero_le _, rfl, rfl⟩
  case round =>
    obtain ⟨k, hk, rfl, rfl⟩ := hrel
    by_cases hlt : k < sc
    · have hmk := fun w => run_float_arith (P := Ybad.prog) w .mul 22 .f64 (tab k) 4621819117588971520 (tab (k + 1)) (tab_succ k (by omega))
      go_wp2
      go_round
      case rel => exact ⟨k + 1, by omega, by go_num, rfl⟩
      case measure => simp [intOf]; omega
    · obtain rfl : k = sc := by omega
      go_wp2_with (first | (go_at_call 4; refine (rnd_nan _ _ _ (nanR_gt _) (nanR_lt _)).mono ?_; rintro e w' ⟨r', n, a1, a2, rfl, rfl⟩; have hor := fun c s => order_nan r' c a1 a2 s) | (go_at_call 5; refine (mant_nan v (tab k) k _ hsc (by simpa using hT) Hm.out).mono ?_; rintro e w' ⟨rfl, m, rfl⟩))
      go_ret
      exact ⟨rfl, _, rfl⟩

theorem rnd_le (s : Bool) (r : Nat) (w : World) (h : r ≤ 9218868437227405312) :
    Calls Ybad.prog 4 #[.float .f64 (W s r)] w fun e w' => ∃ n, e = .returned (.float .f64 (W s (bitsRnd r))) ∧ w' = w.drewN n := by
  by_cases hr : r = 9218868437227405312
  · subst hr
    exact rnd_inf s w
  · exact (rnd_num s r w (by omega)).mono fun e w' ⟨he, hw⟩ => ⟨0, he, by rw [hw]; rfl⟩

set_option maxHeartbeats 1000000 in
set_option maxRecDepth 100000 in
theorem law_big (v sc r : Nat) (s : Bool) (a : Int) (w : World) (hsc : sc < 23) (hsa : a % 18446744073709551616 % 23 = sc) (hT : w.cell? ⟨0, sc, none⟩ = some (.float .f64 (tab sc)))
    (hr : r ≤ 9218868437227405312) (hR : bitsRnd r < 9223372036854775808) (hm : floatBits .mul .f64 v (tab sc) = some (W s r)) (ho : FloatKind.f64.format.order (W false (bitsRnd r)) 4845873199050653696 = some .gt)
    (ho1 : s = true → FloatKind.f64.format.order (W s (bitsRnd r)) 14069245235905429504 = some .lt)
    (ho2 : s = false → FloatKind.f64.format.order (W s (bitsRnd r)) 14069245235905429504 = some .gt ∧ FloatKind.f64.format.order (W s (bitsRnd r)) 4845873199050653696 = some .gt) :
    Calls Ybad.prog 3 #[.float .f64 v, .int .i64 a] w fun e w' => e = .returned (.bool true) ∧ ∃ n, w' = w.drewN n := by
  have hw1 : IntKind.u64.wrap a = a % 18446744073709551616 := IntKind.wrap_u64 a
  have hmul := fun w => run_float_arith (P := Ybad.prog) w .mul 22 .f64 v (tab sc) (W s r) hm
  have Hm : Hid (floatBits .mul .f64 v (tab sc) = some (W s r)) := hm
  have Ho : Hid (FloatKind.f64.format.order (W false (bitsRnd r)) 4845873199050653696 = some .gt) := ho
  clear hm ho
  obtain ⟨b1, b2, hb1, hb2, hb3⟩ : ∃ b1 b2 : Ordering, FloatKind.f64.format.order (W s (bitsRnd r)) 14069245235905429504 = some b1 ∧ (b1 = .lt ∨ b1 = .gt ∧ b2 = .gt) ∧ (b1 = .gt → FloatKind.f64.format.order (W s (bitsRnd r)) 4845873199050653696 = some b2) := by
    cases s
    · exact ⟨.gt, .gt, (ho2 rfl).1, .inr ⟨rfl, rfl⟩, fun _ => (ho2 rfl).2⟩
    · exact ⟨.lt, .lt, ho1 rfl, .inl rfl, fun h => by cases h⟩
  clear ho1 ho2
  go_enter Ybad.func3, Ybad.ntmps3
  go_wp2_with fail
  go_loop [6, 7] (fun t i => ∃ k : Nat, k ≤ sc ∧ i = .int .i64 k ∧ t = .float .f64 (tab k)) (fun _ i => sc - (intOf i).toNat)
  case atStart => exact ⟨0, Nat.zero_le _, rfl, rfl⟩
  case round =>
    obtain ⟨k, hk, rfl, rfl⟩ := hrel
    by_cases hlt : k < sc
    · have hmk := fun w => run_float_arith (P := Ybad.prog) w .mul 22 .f64 (tab k) 4621819117588971520 (tab (k + 1)) (tab_succ k (by omega))
      clear hb2 hb3
      go_wp2
      go_round
      case rel => exact ⟨k + 1, by omega, by go_num, rfl⟩
      case measure => simp [intOf]; omega
    · obtain rfl : k = sc := by omega
      rcases hb2 with rfl | ⟨rfl, rfl⟩
      · clear hb3
        go_wp2_with (first | (go_at_call 4; refine (rnd_le s r _ hr).mono ?_; rintro e w' ⟨n, rfl, rfl⟩) | (go_at_call 5; refine (mant_big v (tab k) r k s _ (by omega) hR hsc (by simpa using hT) Hm.out Ho.out).mono ?_; rintro e w' ⟨rfl, rfl⟩))
        go_ret
        exact ⟨rfl, _, rfl⟩
      · have hb4 := hb3 rfl
        clear hb3
        go_wp2_with (first | (go_at_call 4; refine (rnd_le s r _ hr).mono ?_; rintro e w' ⟨n, rfl, rfl⟩) | (go_at_call 5; refine (mant_big v (tab k) r k s _ (by omega) hR hsc (by simpa using hT) Hm.out Ho.out).mono ?_; rintro e w' ⟨rfl, rfl⟩))
        go_ret
        exact ⟨rfl, _, rfl⟩

set_option maxHeartbeats 1000000 in
set_option maxRecDepth 100000 in
theorem law_zero (v sc r q : Nat) (s : Bool) (z a : Int) (w : World) (hsc : sc < 23) (hsa : a % 18446744073709551616 % 23 = sc) (hT : w.cell? ⟨0, sc, none⟩ = some (.float .f64 (tab sc)))
    (hr : r ≤ 9218868437227405312) (hR : bitsRnd r < 9223372036854775808) (hz1 : -9007199254740992 ≤ z) (hz2 : z ≤ 9007199254740992) (hm : floatBits .mul .f64 v (tab sc) = some (W s r))
    (ho : FloatKind.f64.format.order (W false (bitsRnd r)) 4845873199050653696 = some .lt ∨ FloatKind.f64.format.order (W false (bitsRnd r)) 4845873199050653696 = some .eq)
    (hc : floatToIntVal .f64 (W s (bitsRnd r)) .i64 = some z) (hq : floatBits .quo .f64 (floatOfInt .f64 z) (tab sc) = some q)
    (hz : z = 0) (h1 : FloatKind.f64.format.order (W s (bitsRnd r)) 14069245235905429504 = some .gt) (h2 : FloatKind.f64.format.order (W s (bitsRnd r)) 4845873199050653696 = some .lt) (h3 : FloatKind.f64.format.order (W s (bitsRnd r)) 0 = some .eq) :
    Calls Ybad.prog 3 #[.float .f64 v, .int .i64 a] w fun e w' => e = .returned (.bool true) ∧ ∃ n, w' = w.drewN n := by
  have hw1 : IntKind.u64.wrap a = a % 18446744073709551616 := IntKind.wrap_u64 a
  have hmul := fun w => run_float_arith (P := Ybad.prog) w .mul 22 .f64 v (tab sc) (W s r) hm
  have HM : Hid (∀ w, w.cell? ⟨0, sc, none⟩ = some (.float .f64 (tab sc)) → Calls Ybad.prog 5 #[.float .f64 v, .int .i64 sc] w fun e w' => e = .returned (.tuple #[.int .u64 (z % 18446744073709551616), .bool ((q : Int) == (v : Int)), .bool true]) ∧ w' = w) :=
    fun w h => mant_small v (tab sc) q r sc s z w (by omega) hR hz1 hz2 hsc h hm ho hc hq
  clear ho hc
  subst hz
  have h00 : FloatKind.f64.format.order 0 0 = some .eq := by decide +kernel
  have hcv := fun w => run_convert_float_int (P := Ybad.prog) w 22 23 .f64 .u64 0 0 (by rw [Ybad.underlying22]; rfl) Ybad.underlying23 (by decide +kernel)
  have hq' : floatBits .quo .f64 0 (tab sc) = some q := hq
  have hquo := fun w => run_float_arith (P := Ybad.prog) w .quo 22 .f64 0 (tab sc) q hq'
  clear hq hq' hm
  go_enter Ybad.func3, Ybad.ntmps3
  go_wp2_with fail
  go_loop [6, 7] (fun t i => ∃ k : Nat, k ≤ sc ∧ i = .int .i64 k ∧ t = .float .f64 (tab k)) (fun _ i => sc - (intOf i).toNat)
  case atStart => exact ⟨0, Nat.zero_le _, rfl, rfl⟩
  case round =>
    obtain ⟨k, hk, rfl, rfl⟩ := hrel
    by_cases hlt : k < sc
    · have hmk := fun w => run_float_arith (P := Ybad.prog) w .mul 22 .f64 (tab k) 4621819117588971520 (tab (k + 1)) (tab_succ k (by omega))
      go_wp2
      go_round
      case rel => exact ⟨k + 1, by omega, by go_num, rfl⟩
      case measure => simp [intOf]; omega
    · obtain rfl : k = sc := by omega
      go_wp2_with (first | (go_at_call 4; refine (rnd_le s r _ hr).mono ?_; rintro e w' ⟨n, rfl, rfl⟩) | (go_at_call 5; refine (HM.out _ (by simpa using hT)).mono ?_; rintro e w' ⟨rfl, rfl⟩) | go_in)
      go_ret
      exact ⟨rfl, _, rfl⟩

set_option maxHeartbeats 1000000 in
set_option maxRecDepth 100000 in
theorem law_pos (v sc r q : Nat) (s : Bool) (z a : Int) (w : World) (hsc : sc < 23) (hsa : a % 18446744073709551616 % 23 = sc) (hT : w.cell? ⟨0, sc, none⟩ = some (.float .f64 (tab sc)))
    (hr : r ≤ 9218868437227405312) (hR : bitsRnd r < 9223372036854775808) (hz1 : -9007199254740992 ≤ z) (hz2 : z ≤ 9007199254740992) (hm : floatBits .mul .f64 v (tab sc) = some (W s r))
    (ho : FloatKind.f64.format.order (W false (bitsRnd r)) 4845873199050653696 = some .lt ∨ FloatKind.f64.format.order (W false (bitsRnd r)) 4845873199050653696 = some .eq)
    (hc : floatToIntVal .f64 (W s (bitsRnd r)) .i64 = some z) (hq : floatBits .quo .f64 (floatOfInt .f64 z) (tab sc) = some q)
    (n : Nat) (hz : z = n) (hP : W s (bitsRnd r) = floatOfInt .f64 z) (hcu : floatToIntVal .f64 (W s (bitsRnd r)) .u64 = some n)
    (h1 : FloatKind.f64.format.order (W s (bitsRnd r)) 14069245235905429504 = some .gt) (h2 : FloatKind.f64.format.order (W s (bitsRnd r)) 4845873199050653696 = some .lt ∨ FloatKind.f64.format.order (W s (bitsRnd r)) 4845873199050653696 = some .eq) (h3 : FloatKind.f64.format.order (W s (bitsRnd r)) 0 = some .gt) :
    Calls Ybad.prog 3 #[.float .f64 v, .int .i64 a] w fun e w' => e = .returned (.bool true) ∧ ∃ n, w' = w.drewN n := by
  have hw1 : IntKind.u64.wrap a = a % 18446744073709551616 := IntKind.wrap_u64 a
  have hmul := fun w => run_float_arith (P := Ybad.prog) w .mul 22 .f64 v (tab sc) (W s r) hm
  have HM : Hid (∀ w, w.cell? ⟨0, sc, none⟩ = some (.float .f64 (tab sc)) → Calls Ybad.prog 5 #[.float .f64 v, .int .i64 sc] w fun e w' => e = .returned (.tuple #[.int .u64 (z % 18446744073709551616), .bool ((q : Int) == (v : Int)), .bool true]) ∧ w' = w) :=
    fun w h => mant_small v (tab sc) q r sc s z w (by omega) hR hz1 hz2 hsc h hm ho hc hq
  clear ho hc
  have hcv := fun w => run_convert_float_int (P := Ybad.prog) w 22 23 .f64 .u64 _ _ (by rw [Ybad.underlying22]; rfl) Ybad.underlying23 hcu
  rw [← hP] at hq
  have hquo := fun w => run_float_arith (P := Ybad.prog) w .quo 22 .f64 _ (tab sc) q hq
  have hmm : (z % 18446744073709551616 == (n : Int)) = true := by simp; omega
  subst hz
  clear hq hm hP hcu
  rcases h2 with h2 | h2
  all_goals
    go_enter Ybad.func3, Ybad.ntmps3
    go_wp2_with fail
    go_loop [6, 7] (fun t i => ∃ k : Nat, k ≤ sc ∧ i = .int .i64 k ∧ t = .float .f64 (tab k)) (fun _ i => sc - (intOf i).toNat)
    case atStart => exact ⟨0, Nat.zero_le _, rfl, rfl⟩
    case round =>
      obtain ⟨k, hk, rfl, rfl⟩ := hrel
      by_cases hlt : k < sc
      · have hmk := fun w => run_float_arith (P := Ybad.prog) w .mul 22 .f64 (tab k) 4621819117588971520 (tab (k + 1)) (tab_succ k (by omega))
        go_wp2
        go_round
        case rel => exact ⟨k + 1, by omega, by go_num, rfl⟩
        case measure => simp [intOf]; omega
      · obtain rfl : k = sc := by omega
        go_wp2_with (first | (go_at_call 4; refine (rnd_le s r _ hr).mono ?_; rintro e w' ⟨n, rfl, rfl⟩) | (go_at_call 5; refine (HM.out _ (by simpa using hT)).mono ?_; rintro e w' ⟨rfl, rfl⟩) | go_in)
        go_ret
        exact ⟨rfl, _, rfl⟩

set_option maxHeartbeats 1000000 in
set_option maxRecDepth 100000 in
theorem law_neg (v sc r q : Nat) (s : Bool) (z a : Int) (w : World) (hsc : sc < 23) (hsa : a % 18446744073709551616 % 23 = sc) (hT : w.cell? ⟨0, sc, none⟩ = some (.float .f64 (tab sc)))
    (hr : r ≤ 9218868437227405312) (hR : bitsRnd r < 9223372036854775808) (hz1 : -9007199254740992 ≤ z) (hz2 : z ≤ 9007199254740992) (hm : floatBits .mul .f64 v (tab sc) = some (W s r))
    (ho : FloatKind.f64.format.order (W false (bitsRnd r)) 4845873199050653696 = some .lt ∨ FloatKind.f64.format.order (W false (bitsRnd r)) 4845873199050653696 = some .eq)
    (hc : floatToIntVal .f64 (W s (bitsRnd r)) .i64 = some z) (hq : floatBits .quo .f64 (floatOfInt .f64 z) (tab sc) = some q)
    (n : Nat) (hz : z = -(n : Int)) (hP : W s (bitsRnd r) = floatOfInt .f64 z) (x : Nat) (hng : Op.negFloat .f64 (W s (bitsRnd r)) = x) (hcu : floatToIntVal .f64 x .u64 = some n)
    (h1 : FloatKind.f64.format.order (W s (bitsRnd r)) 14069245235905429504 = some .gt ∨ FloatKind.f64.format.order (W s (bitsRnd r)) 14069245235905429504 = some .eq) (h2 : FloatKind.f64.format.order (W s (bitsRnd r)) 4845873199050653696 = some .lt) (h3 : FloatKind.f64.format.order (W s (bitsRnd r)) 0 = some .lt) :
    Calls Ybad.prog 3 #[.float .f64 v, .int .i64 a] w fun e w' => e = .returned (.bool true) ∧ ∃ n, w' = w.drewN n := by
  have hw1 : IntKind.u64.wrap a = a % 18446744073709551616 := IntKind.wrap_u64 a
  have hmul := fun w => run_float_arith (P := Ybad.prog) w .mul 22 .f64 v (tab sc) (W s r) hm
  have HM : Hid (∀ w, w.cell? ⟨0, sc, none⟩ = some (.float .f64 (tab sc)) → Calls Ybad.prog 5 #[.float .f64 v, .int .i64 sc] w fun e w' => e = .returned (.tuple #[.int .u64 (z % 18446744073709551616), .bool ((q : Int) == (v : Int)), .bool true]) ∧ w' = w) :=
    fun w h => mant_small v (tab sc) q r sc s z w (by omega) hR hz1 hz2 hsc h hm ho hc hq
  clear ho hc
  have hcv := fun w => run_convert_float_int (P := Ybad.prog) w 22 23 .f64 .u64 _ _ (by rw [Ybad.underlying22]; rfl) Ybad.underlying23 hcu
  rw [← hP] at hq
  have hquo := fun w => run_float_arith (P := Ybad.prog) w .quo 22 .f64 _ (tab sc) q hq
  have hneg : ∀ w, Sem.run Ybad.prog (Op.unary .neg (.float .f64 (W s (bitsRnd r)))) w = .ok (.float .f64 x) w := fun w => by rw [← hng]; rfl
  have hmm : (z % 18446744073709551616 == IntKind.u64.wrap (0 - (n : Int))) = true := by rw [IntKind.wrap_u64]; simp; omega
  have hmm2 : (z % 18446744073709551616 == IntKind.u64.wrap (-(n : Int))) = true := by rw [IntKind.wrap_u64]; simp; omega
  subst hz
  clear hq hm hP hcu hng
  rcases h1 with h1 | h1
  all_goals
    go_enter Ybad.func3, Ybad.ntmps3
    go_wp2_with fail
    go_loop [6, 7] (fun t i => ∃ k : Nat, k ≤ sc ∧ i = .int .i64 k ∧ t = .float .f64 (tab k)) (fun _ i => sc - (intOf i).toNat)
    case atStart => exact ⟨0, Nat.zero_le _, rfl, rfl⟩
    case round =>
      obtain ⟨k, hk, rfl, rfl⟩ := hrel
      by_cases hlt : k < sc
      · have hmk := fun w => run_float_arith (P := Ybad.prog) w .mul 22 .f64 (tab k) 4621819117588971520 (tab (k + 1)) (tab_succ k (by omega))
        go_wp2
        go_round
        case rel => exact ⟨k + 1, by omega, by go_num, rfl⟩
        case measure => simp [intOf]; omega
      · obtain rfl : k = sc := by omega
        go_wp2_with (first | (go_at_call 4; refine (rnd_le s r _ hr).mono ?_; rintro e w' ⟨n, rfl, rfl⟩) | (go_at_call 5; refine (HM.out _ (by simpa using hT)).mono ?_; rintro e w' ⟨rfl, rfl⟩) | go_in)
        go_ret
        exact ⟨rfl, _, rfl⟩
end Go.Proofs.YbulkdogaDoor

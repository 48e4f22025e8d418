import Derived.Test.YbulkdogaDoorRows
import Derived.Test.YbulkdogaDoorBits
import Derived.WalkKit
import Derived.WalkLawsBesides
import Derived.Laws.FloatArith
namespace Go.Proofs.YbulkdogaDoor
open Go.RowKit Fl

theorem call6 (args : Array Value) (w : World) : (callFunc 6 args).run Ybad.prog w = ((Extern.MathFloatBits.float64bits args).run Ybad.prog w).andThen fun v w' => .ok (.value v) w' :=
  run_callFunc_extern Ybad.func6 (by kernel_rfl) (by kernel_rfl) (by kernel_rfl) (by kernel_rfl) args w
theorem call14 (args : Array Value) (w : World) : (callFunc 14 args).run Ybad.prog w = ((Extern.MathFloatBits.float64frombits args).run Ybad.prog w).andThen fun v w' => .ok (.value v) w' :=
  run_callFunc_extern Ybad.func14 (by kernel_rfl) (by kernel_rfl) (by kernel_rfl) (by kernel_rfl) args w
theorem call12 (args : Array Value) (w : World) : (callFunc 12 args).run Ybad.prog w = ((Extern.MathFloor.toIntegral "math.archTrunc" .zero args).run Ybad.prog w).andThen fun v w' => .ok (.value v) w' :=
  run_callFunc_extern Ybad.func12 (by kernel_rfl) (by kernel_rfl) (by kernel_rfl) (by kernel_rfl) args w
theorem bits64 (x : Nat) (w : World) : (Extern.MathFloatBits.float64bits #[.float .f64 x]).run Ybad.prog w = .ok (.int .u64 x) w := rfl
theorem frombits64 (n : Int) (w : World) : (Extern.MathFloatBits.float64frombits #[.int .u64 n]).run Ybad.prog w = .ok (.float .f64 n.toNat) w := rfl
attribute [local go_sem] call6
attribute [local go_sem] call14
attribute [local go_sem] call12
attribute [local go_sem] bits64
attribute [local go_sem] frombits64

theorem ret_float {a b : Nat} (h : a = b) : Ending.returned (.float .f64 a) = .returned (.float .f64 b) := by rw [h]

set_option maxHeartbeats 400000 in
set_option maxRecDepth 100000 in
theorem abs_any (s : Bool) (r : Nat) (w : World) (hr : r < 9223372036854775808) :
    Calls Ybad.prog 8 #[.float .f64 (W s r)] w fun e w' => e = .returned (.float .f64 (W false r)) ∧ w' = w := by
  go_enter Ybad.func8, Ybad.ntmps8
  go_wp2
  go_ret
  exact ⟨ret_float (abs_bits s r hr), rfl⟩

set_option maxHeartbeats 400000 in
set_option maxRecDepth 100000 in
theorem copysign_any (s : Bool) (r : Nat) (w : World) (hr : r < 9223372036854775808) :
    Calls Ybad.prog 9 #[.float .f64 4607182418800017408, .float .f64 (W s r)] w fun e w' => e = .returned (.float .f64 (W s 4607182418800017408)) ∧ w' = w := by
  go_enter Ybad.func9, Ybad.ntmps9
  go_wp2
  go_ret
  refine ⟨ret_float ?_, rfl⟩
  rw [sign_bits s r hr, show bits BinOp.andNot IntKind.u64 4607182418800017408 9223372036854775808 = ((4607182418800017408 : Nat) : Int) from by decide +kernel, or_bits s _ (by decide), Int.toNat_natCast]

/-! ### math.Round: the four ways, each closed by a lemma in the walk's own spelling -/
theorem way_lo {s : Bool} {r : Nat} (hr : r < 9223372036854775808) (h1 : bits BinOp.and IntKind.u64 ((W s r : Nat) / 4503599627370496) 2047 < 1023) (h2 : (bits BinOp.and IntKind.u64 ((W s r : Nat) / 4503599627370496) 2047 == 1022) = false) :
    (bits BinOp.and IntKind.u64 (W s r : Nat) 9223372036854775808).toNat = W s (bitsRnd r) := by
  rw [exp_bits s r hr] at h1 h2
  have h3 := beq_eq_false_iff_ne.1 h2
  rw [sign_bits s r hr, Int.toNat_natCast]
  unfold bitsRnd
  rw [if_pos (by omega)]
theorem way_one {s : Bool} {r : Nat} (hr : r < 9223372036854775808) (h2 : (bits BinOp.and IntKind.u64 ((W s r : Nat) / 4503599627370496) 2047 == 1022) = true) :
    (bits BinOp.or IntKind.u64 (bits BinOp.and IntKind.u64 (W s r : Nat) 9223372036854775808) 4607182418800017408).toNat = W s (bitsRnd r) := by
  rw [exp_bits s r hr] at h2
  have h3 := beq_iff_eq.1 h2
  rw [sign_bits s r hr, show (4607182418800017408 : Int) = ((4607182418800017408 : Nat) : Int) from rfl, or_bits' s _ (by decide), Int.toNat_natCast]
  unfold bitsRnd
  rw [if_neg (by omega), if_pos (by omega)]
theorem way_mid {s : Bool} {r : Nat} (hr : r < 9223372036854775808) (h1 : 1023 ≤ bits BinOp.and IntKind.u64 ((W s r : Nat) / 4503599627370496) 2047) (h2 : bits BinOp.and IntKind.u64 ((W s r : Nat) / 4503599627370496) 2047 < 1075) :
    (bits BinOp.andNot IntKind.u64 (IntKind.u64.wrap ((W s r : Nat) + 2251799813685248 / 2 ^ (bits BinOp.and IntKind.u64 ((W s r : Nat) / 4503599627370496) 2047 - 1023).toNat))
      (4503599627370495 / 2 ^ (bits BinOp.and IntKind.u64 ((W s r : Nat) / 4503599627370496) 2047 - 1023).toNat)).toNat = W s (bitsRnd r) := by
  rw [exp_bits s r hr] at h1 h2 ⊢
  rw [show (((r / 4503599627370496 : Nat) : Int) - 1023).toNat = r / 4503599627370496 - 1023 by omega]
  exact mid_bits s r (by omega) (by omega)
theorem way_hi {s : Bool} {r : Nat} (hr : r < 9223372036854775808) (h2 : 1075 ≤ bits BinOp.and IntKind.u64 ((W s r : Nat) / 4503599627370496) 2047) : W s r = W s (bitsRnd r) := by
  rw [exp_bits s r hr] at h2
  unfold bitsRnd
  rw [if_neg (by omega), if_neg (by omega), if_neg (by omega)]

set_option maxHeartbeats 400000 in
set_option maxRecDepth 100000 in
theorem round_any (s : Bool) (r : Nat) (w : World) (hr : r < 9223372036854775808) :
    Calls Ybad.prog 10 #[.float .f64 (W s r)] w fun e w' => e = .returned (.float .f64 (W s (bitsRnd r))) ∧ w' = w := by
  go_enter Ybad.func10, Ybad.ntmps10
  go_wp2
  · rename_i a b
    go_ret
    exact ⟨ret_float (way_one hr b), rfl⟩
  · rename_i a b
    go_ret
    exact ⟨ret_float (way_lo hr a b), rfl⟩
  · rename_i a b
    go_ret
    exact ⟨ret_float (way_mid hr a b), rfl⟩
  · rename_i a b
    go_ret
    exact ⟨ret_float (way_hi hr b), rfl⟩

/-! ### math.Trunc -/
/-- The stop's own text, at a word that has been read; the question that it asks of a signalling NaN is left open. -/
def truncSem (q : Question) (x : Nat) (d : Ieee.Datum) : Sem Value :=
  match d with
  | .nan s t =>
    if FloatKind.f64.format.quiet t = t then pure (.float .f64 x) else do
    let kept ← choose q
    pure (.float .f64 (if kept == 1 then x else FloatKind.f64.encode (.nan s (FloatKind.f64.format.quiet t))))
  | d => pure (.float .f64 (FloatKind.f64.encode (d.integral .zero)))
theorem truncSem_eq : ∃ q : Question, ∀ x, Extern.MathFloor.toIntegral "math.archTrunc" .zero #[.float .f64 x] = truncSem q x (FloatKind.f64.decode x) := ⟨_, fun _ => rfl⟩

theorem trunc_run (x : Nat) (w : World) (h : (FloatKind.f64.decode x).isNaN = false) : (Extern.MathFloor.toIntegral "math.archTrunc" .zero #[.float .f64 x]).run Ybad.prog w = .ok (.float .f64 (FloatKind.f64.encode ((FloatKind.f64.decode x).integral .zero))) w := by
  obtain ⟨q, hq⟩ := truncSem_eq
  rw [hq]
  cases hd : FloatKind.f64.decode x with
  | nan s t => rw [hd] at h; cases h
  | number s m e => rfl
  | infinity s => rfl

/-- Of a NaN: a NaN of the same sign; at most one draw. -/
theorem trunc_run_nan (s : Bool) (r : Nat) (w : World) (h1 : 9218868437227405312 < r) (h2 : r < 9223372036854775808) : ∃ r' n, 9218868437227405312 < r' ∧ r' < 9223372036854775808 ∧
    (Extern.MathFloor.toIntegral "math.archTrunc" .zero #[.float .f64 (W s r)]).run Ybad.prog w = .ok (.float .f64 (W s r')) (w.drewN n) := by
  obtain ⟨q, hq⟩ := truncSem_eq
  have hd : FloatKind.f64.decode (W s r) = .nan s (r - 9218868437227405312) := by
    show Ieee.double.read (W s r) = _
    rw [read_W s r h2, if_neg (by omega), if_neg (by omega), if_neg (by omega)]
  rw [hq, hd]
  unfold truncSem
  dsimp only
  split
  · exact ⟨r, 0, h1, h2, rfl⟩
  · have hx : ∃ r', 9218868437227405312 < r' ∧ r' < 9223372036854775808 ∧ FloatKind.f64.encode (.nan s (FloatKind.f64.format.quiet (r - 9218868437227405312))) = W s r' := by
      have hq2 : FloatKind.f64.format.quiet (r - 9218868437227405312) = (r - 9218868437227405312) ||| 2 ^ 51 := rfl
      have hlt : (r - 9218868437227405312) ||| 2 ^ 51 < 2 ^ 52 := Nat.or_lt_two_pow (by omega) (by decide)
      have hge : 2 ^ 51 ≤ (r - 9218868437227405312) ||| 2 ^ 51 := Nat.right_le_or
      refine ⟨9218868437227405312 + ((r - 9218868437227405312) ||| 2 ^ 51), by omega, by omega, ?_⟩
      show Ieee.double.word s (Ieee.double.infRung + FloatKind.f64.format.quiet (r - 9218868437227405312) % Ieee.double.binade) = _
      rw [word_eq, hq2, show Ieee.double.infRung = 9218868437227405312 by decide, show Ieee.double.binade = 2 ^ 52 by decide, Nat.mod_eq_of_lt hlt]
    obtain ⟨r', a1, a2, a3⟩ := hx
    rw [a3]
    simp only [Sem.run_bind, run_choose_drew]
    split
    · exact ⟨r', 0, a1, a2, rfl⟩
    · simp only [Result.andThen_ok, Sem.run_pure]
      split
      · exact ⟨r, 1, h1, h2, rfl⟩
      · exact ⟨r', 1, a1, a2, rfl⟩

set_option maxHeartbeats 400000 in
set_option maxRecDepth 100000 in
theorem trunc_nan (s : Bool) (r : Nat) (w : World) (h1 : 9218868437227405312 < r) (h2 : r < 9223372036854775808) :
    Calls Ybad.prog 7 #[.float .f64 (W s r)] w fun e w' => ∃ r' n, 9218868437227405312 < r' ∧ r' < 9223372036854775808 ∧ e = .returned (.float .f64 (W s r')) ∧ w' = w.drewN n := by
  obtain ⟨r', n, a1, a2, hr⟩ := trunc_run_nan s r w h1 h2
  go_enter Ybad.func7, Ybad.ntmps7
  go_wp2
  go_ret
  exact ⟨r', n, a1, a2, rfl, rfl⟩

set_option maxHeartbeats 400000 in
set_option maxRecDepth 100000 in
theorem trunc_any (x t : Nat) (w : World) (hn : (FloatKind.f64.decode x).isNaN = false) (ht : FloatKind.f64.encode ((FloatKind.f64.decode x).integral .zero) = t) :
    Calls Ybad.prog 7 #[.float .f64 x] w fun e w' => e = .returned (.float .f64 t) ∧ w' = w := by
  have hr := fun w => trunc_run x w hn
  rw [ht] at hr
  clear ht hn
  go_enter Ybad.func7, Ybad.ntmps7
  go_wp2
  go_ret
  exact ⟨rfl, rfl⟩

/-! ### zzs5759bround -/
set_option maxHeartbeats 400000 in
set_option maxRecDepth 100000 in
theorem rnd_down (s b : Bool) (r t d : Nat) (w : World) (hd : d < 9223372036854775808) (hn : (FloatKind.f64.decode (W s r)).isNaN = false) (ht : FloatKind.f64.encode ((FloatKind.f64.decode (W s r)).integral .zero) = t)
    (hs : floatBits .sub .f64 (W s r) t = some (W b d)) (hc : FloatKind.f64.format.order (W false d) 4602678819172646912 = some .lt) :
    Calls Ybad.prog 4 #[.float .f64 (W s r)] w fun e w' => e = .returned (.float .f64 t) ∧ w' = w := by
  have hsub := fun w => run_float_arith (P := Ybad.prog) w .sub 22 .f64 (W s r) t (W b d) hs
  have htr := fun w => trunc_any (W s r) t w hn ht
  have Htr : Hid (∀ w, Calls Ybad.prog 7 #[.float .f64 (W s r)] w fun e w' => e = .returned (.float .f64 t) ∧ w' = w) := htr
  clear htr hs ht hn
  go_enter Ybad.func4, Ybad.ntmps4
  go_wp2_with (first | (go_at_call 7; refine (Htr.out _).mono ?_; rintro e w' ⟨rfl, rfl⟩) | (go_at_call 8; refine (abs_any b d _ hd).mono ?_; rintro e w' ⟨rfl, rfl⟩))
  go_ret
  exact ⟨rfl, rfl⟩

set_option maxHeartbeats 400000 in
set_option maxRecDepth 100000 in
theorem rnd_up (s b : Bool) (r t d u : Nat) (w : World) (hr : r < 9223372036854775808) (hd : d < 9223372036854775808) (hn : (FloatKind.f64.decode (W s r)).isNaN = false) (ht : FloatKind.f64.encode ((FloatKind.f64.decode (W s r)).integral .zero) = t)
    (hs : floatBits .sub .f64 (W s r) t = some (W b d)) (hc : FloatKind.f64.format.order (W false d) 4602678819172646912 = some .gt ∨ FloatKind.f64.format.order (W false d) 4602678819172646912 = some .eq)
    (hu : floatBits .add .f64 t (W s 4607182418800017408) = some u) :
    Calls Ybad.prog 4 #[.float .f64 (W s r)] w fun e w' => e = .returned (.float .f64 u) ∧ w' = w := by
  have hsub := fun w => run_float_arith (P := Ybad.prog) w .sub 22 .f64 (W s r) t (W b d) hs
  have hadd := fun w => run_float_arith (P := Ybad.prog) w .add 22 .f64 t (W s 4607182418800017408) u hu
  have htr := fun w => trunc_any (W s r) t w hn ht
  have Htr : Hid (∀ w, Calls Ybad.prog 7 #[.float .f64 (W s r)] w fun e w' => e = .returned (.float .f64 t) ∧ w' = w) := htr
  clear htr hs ht hn hu
  rcases hc with hc | hc
  all_goals
    go_enter Ybad.func4, Ybad.ntmps4
    go_wp2_with (first | (go_at_call 7; refine (Htr.out _).mono ?_; rintro e w' ⟨rfl, rfl⟩) | (go_at_call 8; refine (abs_any b d _ hd).mono ?_; rintro e w' ⟨rfl, rfl⟩) | (go_at_call 9; refine (copysign_any s r _ hr).mono ?_; rintro e w' ⟨rfl, rfl⟩))
    go_ret
    exact ⟨rfl, rfl⟩

/-! ### a NaN that the tape picks -/
def nanS (T : Nat) : Bool := T % 2 == 1
def nanR (T : Nat) : Nat := 9218868437227405313 + T / 2 % 4503599627370495
theorem nanR_lt (T : Nat) : nanR T < 9223372036854775808 := by unfold nanR; omega
theorem nanR_gt (T : Nat) : 9218868437227405312 < nanR T := by unfold nanR; omega
theorem nan_cut (x y T : Nat) : (Question.nanBits .f64 x y).cut T = W (nanS T) (nanR T) := by
  have e : (Question.nanBits .f64 x y).cut T = (T % 2) * 2 ^ 63 + 9218868437227405312 + 1 + (T / 2) % (2 ^ 52 - 1) := rfl
  rw [e]
  unfold W nanS nanR
  rcases Nat.mod_two_eq_zero_or_one T with h | h
  · rw [h]; simp
  · rw [h]; simp; omega

theorem run_float_nan (op : BinOp) (t : TypeId) (x y : Nat) (hop : op = .add ∨ op = .sub ∨ op = .mul ∨ op = .quo) (h : floatBits op .f64 x y = none) (w : World) :
    (binOp op t (.float .f64 x) (.float .f64 y)).run Ybad.prog w = .ok (.float .f64 (W (nanS (w.tape w.drawn (.nanBits .f64 x y))) (nanR (w.tape w.drawn (.nanBits .f64 x y))))) w.drew := by
  unfold floatBits at h
  rw [← nan_cut x y]
  rcases hop with rfl | rfl | rfl | rfl <;> simp only at h <;> simp [binOp, Op.floatArith, h, Question.forced]

theorem order_nan (r c : Nat) (h1 : 9218868437227405312 < r) (h2 : r < 9223372036854775808) (s : Bool) : FloatKind.f64.format.order (W s r) c = none := by
  show (Ieee.double.read (W s r)).order (Ieee.double.read c) = none
  rw [read_W s r h2, if_neg (by omega), if_neg (by omega), if_neg (by omega)]
  cases Ieee.double.read c <;> rfl

theorem sub_nan (s : Bool) (r y : Nat) (h1 : 9218868437227405312 < r) (h2 : r < 9223372036854775808) : floatBits .sub .f64 (W s r) y = none := by
  show Option.map _ ((Ieee.double.read (W s r)).sum (Ieee.double.read y).opposite) = none
  rw [read_W s r h2, if_neg (by omega), if_neg (by omega), if_neg (by omega)]
  cases (Ieee.double.read y).opposite <;> rfl

theorem sub_inf (s : Bool) : floatBits .sub .f64 (W s 9218868437227405312) (W s 9218868437227405312) = none := by
  cases s <;> decide +kernel

set_option maxHeartbeats 400000 in
set_option maxRecDepth 100000 in
theorem rnd_nan (s : Bool) (r : Nat) (w : World) (h1 : 9218868437227405312 < r) (h2 : r < 9223372036854775808) :
    Calls Ybad.prog 4 #[.float .f64 (W s r)] w fun e w' => ∃ r' n, 9218868437227405312 < r' ∧ r' < 9223372036854775808 ∧ e = .returned (.float .f64 (W s r')) ∧ w' = w.drewN n := by
  have hsub := fun y => run_float_nan .sub 22 (W s r) y (by simp) (sub_nan s r y h1 h2)
  have hord := fun T => order_nan (nanR T) 4602678819172646912 (nanR_gt T) (nanR_lt T) false
  go_enter Ybad.func4, Ybad.ntmps4
  go_wp2_with (first | (go_at_call 7; refine (trunc_nan s r _ h1 h2).mono ?_; rintro e w' ⟨r', n, a1, a2, rfl, rfl⟩) | (go_at_call 8; refine (abs_any _ _ _ (nanR_lt _)).mono ?_; rintro e w' ⟨rfl, rfl⟩))
  go_ret
  exact ⟨r', n + 1, a1, a2, rfl, rfl⟩

theorem read_inf (s : Bool) : FloatKind.f64.decode (W s 9218868437227405312) = .infinity s := by
  show Ieee.double.read (W s 9218868437227405312) = _
  rw [read_W s _ (by decide), if_neg (by decide), if_neg (by decide), if_pos rfl]
theorem trunc_inf (s : Bool) : FloatKind.f64.encode ((FloatKind.f64.decode (W s 9218868437227405312)).integral .zero) = W s 9218868437227405312 := by
  rw [read_inf]
  show Ieee.double.word s Ieee.double.infRung = _
  rw [word_eq]
  rfl

set_option maxHeartbeats 400000 in
set_option maxRecDepth 100000 in
theorem rnd_inf (s : Bool) (w : World) :
    Calls Ybad.prog 4 #[.float .f64 (W s 9218868437227405312)] w fun e w' => ∃ n, e = .returned (.float .f64 (W s 9218868437227405312)) ∧ w' = w.drewN n := by
  have hsub := run_float_nan .sub 22 (W s 9218868437227405312) (W s 9218868437227405312) (by simp) (sub_inf s)
  have hord := fun T => order_nan (nanR T) 4602678819172646912 (nanR_gt T) (nanR_lt T) false
  go_enter Ybad.func4, Ybad.ntmps4
  go_wp2_with (first | (go_at_call 7; refine (trunc_any _ _ _ (by rw [read_inf]; rfl) (trunc_inf s)).mono ?_; rintro e w' ⟨rfl, rfl⟩) | (go_at_call 8; refine (abs_any _ _ _ (nanR_lt _)).mono ?_; rintro e w' ⟨rfl, rfl⟩))
  go_ret
  exact ⟨1, rfl, rfl⟩

/-! ### a finite number: rounded half away from zero -/
theorem cmp_lt {a b : Int} (h : a < b) : compare a b = .lt := by
  simp [compare, compareOfLessAndEq, h]
theorem cmp_ge {a b : Int} (h : b ≤ a) : compare a b = .gt ∨ compare a b = .eq := by
  by_cases e : a = b
  · right; simp [compare, compareOfLessAndEq, e]
  · left; simp [compare, compareOfLessAndEq, e, show ¬ a < b by omega]

theorem sg_sub (s : Bool) (A T : Nat) (h : T ≤ A) : sg s (A - T) = sg s A + sg (!s) T := by
  cases s <;> simp [sg] <;> omega
theorem sg_add (s : Bool) (A T : Nat) : sg s (A + T) = sg s A + sg s T := by
  cases s <;> simp [sg] <;> omega
theorem sg_abs (s : Bool) (A : Nat) : (sg s A).natAbs = A := by
  cases s <;> simp [sg]

theorem rnd_num (s : Bool) (r : Nat) (w : World) (h : r < 9218868437227405312) :
    Calls Ybad.prog 4 #[.float .f64 (W s r)] w fun e w' => e = .returned (.float .f64 (W s (bitsRnd r))) ∧ w' = w := by
  have hp := Nat.two_pow_pos S
  have hA := scl_lt r h
  have hTle := Nat.div_mul_le_self (scl r) (2 ^ S)
  have hdm : scl r - scl r / 2 ^ S * 2 ^ S = scl r % 2 ^ S := by
    have := Nat.div_add_mod (scl r) (2 ^ S)
    rw [Nat.mul_comm] at this
    omega
  have hT : rungOf (scl r / 2 ^ S * 2 ^ S) < 9218868437227405312 := rung_lt _ (by omega)
  have hD : rungOf (scl r % 2 ^ S) < 9218868437227405312 := rung_lt _ (by have := Nat.mod_le (scl r) (2 ^ S); omega)
  have hn : (FloatKind.f64.decode (W s r)).isNaN = false := by
    obtain ⟨m, k, h1, _⟩ := read_fin s r h
    show (Ieee.double.read (W s r)).isNaN = false
    rw [h1]
    rfl
  have ht : FloatKind.f64.encode ((FloatKind.f64.decode (W s r)).integral .zero) = W s (rungOf (scl r / 2 ^ S * 2 ^ S)) := trunc_fin s r h
  have sT := scl_rungOf _ (rep_trunc (rep_scl r))
  have sD := scl_rungOf _ (rep_mod (rep_scl r))
  have hs := sub_fin s s r (rungOf (scl r / 2 ^ S * 2 ^ S)) h hT (sg s (scl r % 2 ^ S)) (by rw [sT, ← sg_sub s _ _ hTle, hdm]) (by rw [sg_abs]; exact rep_mod (rep_scl r)) (by rw [sg_abs]; omega)
  rw [sg_abs] at hs
  have ho := order_fin false false (rungOf (scl r % 2 ^ S)) 4602678819172646912 hD (by decide)
  rw [sD, scl_half] at ho
  have ho' : FloatKind.f64.format.order (W false (rungOf (scl r % 2 ^ S))) 4602678819172646912 = some (compare (sg false (scl r % 2 ^ S)) (sg false (2 ^ (S - 1)))) := ho
  by_cases hc : scl r % 2 ^ S < 2 ^ (S - 1)
  · rw [cmp_lt (by simp only [sg, Bool.false_eq_true, if_false]; exact Int.ofNat_lt.2 hc)] at ho'
    have := rnd_down s _ r _ _ w (by omega) hn ht hs ho'
    rw [← rnd_eq r h]
    unfold rnd
    rw [near_down hc]
    exact this
  · have hge : compare (sg false (scl r % 2 ^ S)) (sg false (2 ^ (S - 1))) = .gt ∨ compare (sg false (scl r % 2 ^ S)) (sg false (2 ^ (S - 1))) = .eq :=
      cmp_ge (by simp only [sg, Bool.false_eq_true, if_false]; exact Int.ofNat_le.2 (by omega))
    have hup : (scl r / 2 ^ S + 1) * 2 ^ S = scl r / 2 ^ S * 2 ^ S + 2 ^ S := by rw [Nat.add_mul, Nat.one_mul]
    have hRep := rep_up (rep_scl r) (show 2 ^ (S - 1) ≤ scl r % 2 ^ S by omega)
    have hB : (scl r / 2 ^ S + 1) * 2 ^ S < 2 ^ (S + 1024) := Nat.lt_of_lt_of_le (up_lt (rep_scl r) (by omega)) pow54
    have hZ := add_fin s s (rungOf (scl r / 2 ^ S * 2 ^ S)) 4607182418800017408 hT (by decide) (sg s ((scl r / 2 ^ S + 1) * 2 ^ S)) (by rw [sT, scl_one, hup, sg_add]) (by rw [sg_abs]; exact hRep) (by rw [sg_abs]; have := rung_lt _ hB; omega)
    rw [sg_abs] at hZ
    have hsgn : (if sg s ((scl r / 2 ^ S + 1) * 2 ^ S) = 0 then s && s else decide (sg s ((scl r / 2 ^ S + 1) * 2 ^ S) < 0)) = s := by
      have : 0 < (scl r / 2 ^ S + 1) * 2 ^ S := Nat.mul_pos (Nat.succ_pos _) hp
      generalize (scl r / 2 ^ S + 1) * 2 ^ S = Q at *
      cases s <;> simp [sg] <;> omega
    rw [hsgn] at hZ
    have := rnd_up s _ r _ _ _ w (by omega) (by omega) hn ht hs (by rcases hge with hg | hg <;> rw [hg] at ho' <;> simp [ho']) hZ
    rw [← rnd_eq r h]
    unfold rnd
    rw [near_up (by omega)]
    exact this
end Go.Proofs.YbulkdogaDoor

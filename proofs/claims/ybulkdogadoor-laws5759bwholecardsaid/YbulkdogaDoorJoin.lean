/- FROM THE PLAIN LAW TO THE WALKS: every float64, every scale. -/
import Derived.Test.YbulkdogaDoorWalks2
namespace Go.Proofs.YbulkdogaDoor
open Go.RowKit Fl

/-- A product is a number or an infinity. -/
theorem mul_le {v T x : Nat} (h : floatBits .mul .f64 v T = some x) : ∃ s r, x = W s r ∧ r ≤ 9218868437227405312 := by
  have hI : Ieee.double.infRung = 9218868437227405312 := by decide
  have hw : ∀ d : Ieee.Datum, d.isNaN = false → ∃ s r, Ieee.double.write d = W s r ∧ r ≤ 9218868437227405312 := by
    intro d hd
    cases d with
    | nan s t => cases hd
    | infinity s => exact ⟨s, 9218868437227405312, by show Ieee.double.word s Ieee.double.infRung = _; rw [word_eq, hI], Nat.le_refl _⟩
    | number s m e =>
      show ∃ s' r, Ieee.double.nearest s m e = W s' r ∧ _
      unfold Ieee.Format.nearest
      split
      · exact ⟨s, 0, word_eq _ _, by omega⟩
      · exact ⟨s, _, word_eq _ _, by rw [hI]; exact Nat.min_le_right _ _⟩
  have h' : Option.map Ieee.double.write ((Ieee.double.read v).product (Ieee.double.read T)) = some x := h
  obtain ⟨d, hd, rfl⟩ := Option.map_eq_some_iff.1 h'
  refine hw d ?_
  cases hv : Ieee.double.read v <;> cases hT : Ieee.double.read T <;> rw [hv, hT] at hd <;> unfold Ieee.Datum.product at hd <;> simp only at hd
  all_goals first
    | (cases hd; done)
    | (cases hd; rfl)
    | (split at hd <;> first | (cases hd; done) | (cases hd; rfl))

theorem neg_word (R : Nat) (h : R < 9223372036854775808) : Op.negFloat .f64 (W true R) = W false R := by
  show (9223372036854775808 + R) ^^^ 2 ^ 63 = R
  have e : 9223372036854775808 + R = 2 ^ 63 ||| R := (nat_join 63 (2 ^ 63) R (by decide) (by omega)).symm
  rw [e]
  refine Nat.eq_of_testBit_eq fun i => ?_
  rw [Nat.testBit_xor, Nat.testBit_or, Nat.testBit_two_pow]
  by_cases hi : 63 = i
  · subst hi
    have : R.testBit 63 = false := Nat.testBit_lt_two_pow (by omega)
    simp [this]
  · simp [hi]

/-- The words of the limits. -/
theorem lim_pos : (4845873199050653696 : Nat) = W false 4845873199050653696 := rfl
theorem lim_neg : (14069245235905429504 : Nat) = W true 4845873199050653696 := rfl
theorem zero_word : (0 : Nat) = W false 0 := rfl

theorem cmp_gt {a b : Int} (h : b < a) : compare a b = .gt := by
  simp [compare, compareOfLessAndEq, show ¬ a < b by omega, show ¬ a = b by omega]
theorem cmp_eq {a b : Int} (h : a = b) : compare a b = .eq := by
  simp [compare, compareOfLessAndEq, h]
theorem cmp_le {a b : Int} (h : a ≤ b) : compare a b = .lt ∨ compare a b = .eq := by
  by_cases e : a = b
  · right; exact cmp_eq e
  · left; exact cmp_lt (by omega)

/-- A whole number's word against a whole number's. -/
theorem ord_whole (s t : Bool) (n c R q : Nat) (hR : R < 9218868437227405312) (hq : q < 9218868437227405312) (h1 : scl R = n * 2 ^ S) (h2 : scl q = c * 2 ^ S) :
    FloatKind.f64.format.order (W s R) (W t q) = some (compare (sg s n) (sg t c)) := by
  have := order_fin s t R q hR hq
  rw [h1, h2, sg_mul, sg_mul, compare_mul] at this
  exact this

theorem toInt_whole (s : Bool) (n R : Nat) (hR : R < 9218868437227405312) (h1 : scl R = n * 2 ^ S) : (FloatKind.f64.decode (W s R)).toInt .zero = some (sg s n) := by
  show (Ieee.double.read (W s R)).toInt .zero = _
  unfold Ieee.Datum.toInt
  rw [integral_fin s R hR, h1, Nat.mul_div_cancel _ (Nat.two_pow_pos S)]
  show some (Ieee.signed s n 0) = _
  rw [signed_eq, Nat.pow_zero, Nat.mul_one]

theorem fti {s : Bool} {n R : Nat} {k : IntKind} {z : Int} (hR : R < 9218868437227405312) (h1 : scl R = n * 2 ^ S) (hz : sg s n = z) (hb : k.min ≤ z ∧ z ≤ k.max) : floatToIntVal .f64 (W s R) k = some z := by
  unfold floatToIntVal
  rw [toInt_whole s n R hR h1, hz]
  simp [hb]

theorem tab_num : ∀ k < 23, (match Ieee.double.read (tab k) with | .number _ m _ => m != 0 | _ => false) = true := by decide +kernel

theorem quo_some (sc : Nat) (hsc : sc < 23) (s : Bool) (R : Nat) (hR : R < 9218868437227405312) : ∃ q, floatBits .quo .f64 (W s R) (tab sc) = some q := by
  have ht := tab_num sc hsc
  obtain ⟨m, k, h1, _⟩ := read_fin s R hR
  show ∃ q, Option.map Ieee.double.write ((Ieee.double.read (W s R)).quotient 54 (Ieee.double.read (tab sc))) = some q
  rw [h1]
  cases hd : Ieee.double.read (tab sc) with
  | nan s t => rw [hd] at ht; cases ht
  | infinity s => rw [hd] at ht; cases ht
  | number t n e =>
    rw [hd] at ht
    have hn : n ≠ 0 := by simpa using ht
    unfold Ieee.Datum.quotient
    simp only
    rw [if_neg hn]
    exact ⟨_, rfl⟩

theorem bitsRnd_inf : bitsRnd 9218868437227405312 = 9218868437227405312 := by decide
theorem inf_ord (t u : Bool) : FloatKind.f64.format.order (W t 9218868437227405312) (W u 4845873199050653696) = some (if t then .lt else .gt) := by
  obtain ⟨m, k, h1, _⟩ := read_fin u 4845873199050653696 (by decide)
  have h2 : Ieee.double.read (W t 9218868437227405312) = .infinity t := read_inf t
  show (Ieee.double.read (W t 9218868437227405312)).order (Ieee.double.read (W u 4845873199050653696)) = _
  rw [h2, h1]
  rfl

theorem any_inf (v sc : Nat) (s : Bool) (a : Int) (w : World) (hsc : sc < 23) (hsa : a % 18446744073709551616 % 23 = sc) (hT : w.cell? ⟨0, sc, none⟩ = some (.float .f64 (tab sc))) (hm : floatBits .mul .f64 v (tab sc) = some (W s 9218868437227405312)) :
    Calls Ybad.prog 3 #[.float .f64 v, .int .i64 a] w fun e w' => e = .returned (.bool true) ∧ ∃ n, w' = w.drewN n := by
  have o1 := inf_ord false false
  have o2 := fun t => inf_ord t true
  rw [← lim_pos] at o1
  simp only [← lim_neg] at o2
  rw [← bitsRnd_inf] at o1
  refine law_big v sc 9218868437227405312 s a w hsc hsa hT (Nat.le_refl _) (by rw [bitsRnd_inf]; decide) hm o1 ?_ ?_
  · intro hs; subst hs; rw [bitsRnd_inf]; exact o2 true
  · intro hs; subst hs; exact ⟨by rw [bitsRnd_inf]; exact o2 false, o1⟩

theorem any_big (v sc r n : Nat) (s : Bool) (a : Int) (w : World) (hsc : sc < 23) (hsa : a % 18446744073709551616 % 23 = sc) (hT : w.cell? ⟨0, sc, none⟩ = some (.float .f64 (tab sc))) (hr : r < 9218868437227405312) (hm : floatBits .mul .f64 v (tab sc) = some (W s r)) (hR : bitsRnd r < 9218868437227405312) (hS : scl (bitsRnd r) = n * 2 ^ S) (hbig : 9007199254740992 < n) :
    Calls Ybad.prog 3 #[.float .f64 v, .int .i64 a] w fun e w' => e = .returned (.bool true) ∧ ∃ n, w' = w.drewN n := by
  have o1 := ord_whole false false n 9007199254740992 _ _ hR (by decide) hS scl_limit
  have o2 := ord_whole s true n 9007199254740992 _ _ hR (by decide) hS scl_limit
  have o3 := ord_whole s false n 9007199254740992 _ _ hR (by decide) hS scl_limit
  rw [← lim_pos] at o1 o3
  rw [← lim_neg] at o2
  refine law_big v sc r s a w hsc hsa hT (by omega) (by omega) hm ?_ ?_ ?_
  · rw [o1, cmp_gt (by simp [sg]; omega)]
  · intro hs; subst hs; rw [o2, cmp_lt (by simp [sg]; omega)]
  · intro hs; subst hs; exact ⟨by rw [o2, cmp_gt (by simp [sg]; omega)], by rw [o3, cmp_gt (by simp [sg]; omega)]⟩

theorem i64_in (z : Int) (h1 : -9007199254740992 ≤ z) (h2 : z ≤ 9007199254740992) : IntKind.i64.min ≤ z ∧ z ≤ IntKind.i64.max := by
  have hmin : IntKind.i64.min = -9223372036854775808 := by decide
  have hmax : IntKind.i64.max = 9223372036854775807 := by decide
  rw [hmin, hmax]; omega
theorem u64_in (z : Int) (h1 : 0 ≤ z) (h2 : z ≤ 9007199254740992) : IntKind.u64.min ≤ z ∧ z ≤ IntKind.u64.max := by
  have umin : IntKind.u64.min = 0 := by decide
  have umax : IntKind.u64.max = 18446744073709551615 := by decide
  rw [umin, umax]; omega
theorem sg_lo (s : Bool) (n : Nat) (h : n ≤ 9007199254740992) : -9007199254740992 ≤ sg s n ∧ sg s n ≤ 9007199254740992 := by
  cases s <;> simp [sg] <;> omega
theorem ord_abs (R n : Nat) (hR : R < 9218868437227405312) (hS : scl R = n * 2 ^ S) (h : n ≤ 9007199254740992) : FloatKind.f64.format.order (W false R) 4845873199050653696 = some .lt ∨ FloatKind.f64.format.order (W false R) 4845873199050653696 = some .eq := by
  have o1 := ord_whole false false n 9007199254740992 _ _ hR (by decide) hS scl_limit
  rw [← lim_pos] at o1
  rw [o1]
  rcases cmp_le (show sg false n ≤ sg false 9007199254740992 by simp [sg]; omega) with h | h <;> rw [h] <;> simp
theorem scl_zero : scl 0 = 0 * 2 ^ S := by rw [Nat.zero_mul]; rfl

theorem any_zero (v sc r : Nat) (s : Bool) (a : Int) (w : World) (hsc : sc < 23) (hsa : a % 18446744073709551616 % 23 = sc) (hT : w.cell? ⟨0, sc, none⟩ = some (.float .f64 (tab sc))) (hr : r < 9218868437227405312) (hm : floatBits .mul .f64 v (tab sc) = some (W s r)) (hR : bitsRnd r < 9218868437227405312) (hS : scl (bitsRnd r) = 0 * 2 ^ S) :
    Calls Ybad.prog 3 #[.float .f64 v, .int .i64 a] w fun e w' => e = .returned (.bool true) ∧ ∃ n, w' = w.drewN n := by
  have o2 := ord_whole s true 0 9007199254740992 _ _ hR (by decide) hS scl_limit
  have o3 := ord_whole s false 0 9007199254740992 _ _ hR (by decide) hS scl_limit
  have o4 := ord_whole s false 0 0 _ _ hR (by decide) hS scl_zero
  rw [← lim_pos] at o3
  rw [← lim_neg] at o2
  rw [← zero_word] at o4
  have hz : sg s 0 = 0 := by cases s <;> rfl
  have hb := sg_lo s 0 (by omega)
  obtain ⟨q, hq⟩ := quo_some sc hsc false 0 (by decide)
  refine law_zero v sc r q s (sg s 0) a w hsc hsa hT (by omega) (by omega) hb.1 hb.2 hm (ord_abs _ 0 hR hS (by omega)) (fti hR hS rfl (i64_in _ hb.1 hb.2)) (by rw [hz]; exact hq) hz ?_ ?_ ?_
  · rw [o2, cmp_gt (by rw [hz]; simp [sg])]
  · rw [o3, cmp_lt (by rw [hz]; simp [sg])]
  · rw [o4, cmp_eq (by rw [hz]; rfl)]

theorem foi (s : Bool) (n R : Nat) (hn : n ≠ 0) (hRe : R = rungOf (n * 2 ^ S)) (hRep : Rep (n * 2 ^ S)) (hlt : n * 2 ^ S < 2 ^ (S + 1024)) : W s R = floatOfInt .f64 (sg s n) := by
  show _ = Ieee.double.write (.number (decide (sg s n < 0)) (sg s n).natAbs 0)
  rw [sg_abs, show decide (sg s n < 0) = s by cases s <;> simp [sg] <;> omega, write_whole s n hRep hlt, hRe]

theorem any_pos (v sc r n : Nat) (a : Int) (w : World) (hsc : sc < 23) (hsa : a % 18446744073709551616 % 23 = sc) (hT : w.cell? ⟨0, sc, none⟩ = some (.float .f64 (tab sc))) (hr : r < 9218868437227405312) (hm : floatBits .mul .f64 v (tab sc) = some (W false r)) (hR : bitsRnd r < 9218868437227405312) (hS : scl (bitsRnd r) = n * 2 ^ S) (hP : W false (bitsRnd r) = floatOfInt .f64 (sg false n)) (hn : n ≠ 0) (hs : n ≤ 9007199254740992) :
    Calls Ybad.prog 3 #[.float .f64 v, .int .i64 a] w fun e w' => e = .returned (.bool true) ∧ ∃ n, w' = w.drewN n := by
  have o2 := ord_whole false true n 9007199254740992 _ _ hR (by decide) hS scl_limit
  have o3 := ord_abs _ n hR hS hs
  have o4 := ord_whole false false n 0 _ _ hR (by decide) hS scl_zero
  rw [← lim_neg] at o2
  rw [← zero_word] at o4
  have hb := sg_lo false n hs
  obtain ⟨q, hq⟩ := quo_some sc hsc false (bitsRnd r) hR
  rw [hP] at hq
  refine law_pos v sc r q false (sg false n) a w hsc hsa hT (by omega) (by omega) hb.1 hb.2 hm o3 (fti hR hS rfl (i64_in _ hb.1 hb.2)) hq n rfl hP (fti hR hS rfl (u64_in _ (by omega) hb.2)) ?_ o3 ?_
  · rw [o2, cmp_gt (by simp [sg]; omega)]
  · rw [o4, cmp_gt (by simp [sg]; omega)]

theorem any_neg (v sc r n : Nat) (a : Int) (w : World) (hsc : sc < 23) (hsa : a % 18446744073709551616 % 23 = sc) (hT : w.cell? ⟨0, sc, none⟩ = some (.float .f64 (tab sc))) (hr : r < 9218868437227405312) (hm : floatBits .mul .f64 v (tab sc) = some (W true r)) (hR : bitsRnd r < 9218868437227405312) (hS : scl (bitsRnd r) = n * 2 ^ S) (hP : W true (bitsRnd r) = floatOfInt .f64 (sg true n)) (hn : n ≠ 0) (hs : n ≤ 9007199254740992) :
    Calls Ybad.prog 3 #[.float .f64 v, .int .i64 a] w fun e w' => e = .returned (.bool true) ∧ ∃ n, w' = w.drewN n := by
  have o2 := ord_whole true true n 9007199254740992 _ _ hR (by decide) hS scl_limit
  have o3 := ord_whole true false n 9007199254740992 _ _ hR (by decide) hS scl_limit
  have o4 := ord_whole true false n 0 _ _ hR (by decide) hS scl_zero
  rw [← lim_pos] at o3
  rw [← lim_neg] at o2
  rw [← zero_word] at o4
  have hb := sg_lo true n hs
  obtain ⟨q, hq⟩ := quo_some sc hsc true (bitsRnd r) hR
  rw [hP] at hq
  refine law_neg v sc r q true (sg true n) a w hsc hsa hT (by omega) (by omega) hb.1 hb.2 hm (ord_abs _ n hR hS hs) (fti hR hS rfl (i64_in _ hb.1 hb.2)) hq n rfl hP (W false (bitsRnd r)) (neg_word _ (by omega)) (fti (s := false) hR hS rfl (u64_in _ (by omega) (by omega))) ?_ ?_ ?_
  · rw [o2]
    rcases cmp_ge (show sg true 9007199254740992 ≤ sg true n by simp [sg]; omega) with h | h <;> rw [h] <;> simp
  · rw [o3, cmp_lt (by simp [sg]; omega)]
  · rw [o4, cmp_lt (by simp [sg]; omega)]

theorem law_any (v sc : Nat) (a : Int) (w : World) (hsc : sc < 23) (hsa : a % 18446744073709551616 % 23 = sc) (hT : w.cell? ⟨0, sc, none⟩ = some (.float .f64 (tab sc))) :
    Calls Ybad.prog 3 #[.float .f64 v, .int .i64 a] w fun e w' => e = .returned (.bool true) ∧ ∃ n, w' = w.drewN n := by
  cases hm : floatBits .mul .f64 v (tab sc) with
  | none => exact law_nan v sc a w hsc hsa hT hm
  | some x =>
    obtain ⟨s, r, rfl, hr⟩ := mul_le hm
    by_cases hi : r = 9218868437227405312
    · subst hi
      exact any_inf v sc s a w hsc hsa hT hm
    · have hf : r < 9218868437227405312 := by omega
      have hRep := rep_near (rep_scl r)
      have hlt : near (scl r) * 2 ^ S < 2 ^ (S + 1024) := by
        by_cases hd : scl r % 2 ^ S < 2 ^ (S - 1)
        · rw [near_down hd]
          exact Nat.lt_of_le_of_lt (Nat.div_mul_le_self _ _) (scl_lt r hf)
        · rw [near_up (by omega)]
          exact Nat.lt_of_lt_of_le (up_lt (rep_scl r) (by omega)) pow54
      have hRe : bitsRnd r = rungOf (near (scl r) * 2 ^ S) := (rnd_eq r hf).symm
      have hR : bitsRnd r < 9218868437227405312 := by rw [hRe]; exact rung_lt _ hlt
      have hS : scl (bitsRnd r) = near (scl r) * 2 ^ S := by rw [hRe]; exact scl_rungOf _ hRep
      generalize near (scl r) = n at *
      by_cases hbig : 9007199254740992 < n
      · exact any_big v sc r n s a w hsc hsa hT hf hm hR hS hbig
      · by_cases hn : n = 0
        · subst hn
          exact any_zero v sc r s a w hsc hsa hT hf hm hR hS
        · have hP := foi s n (bitsRnd r) hn hRe hRep hlt
          cases s with
          | false => exact any_pos v sc r n a w hsc hsa hT hf hm hR hS hP hn (by omega)
          | true => exact any_neg v sc r n a w hsc hsa hT hf hm hR hS hP hn (by omega)

end Go.Proofs.YbulkdogaDoor

/- THE PLAIN LAW of chunk.LawS5759BWhole: no Go in sight: words of IEEE double, their scaled magnitudes, and rounding half away from zero. -/
import Ieee.Arith
import Derived.Laws.FloatBits
namespace Go.Proofs.YbulkdogaDoor.Fl
open Ieee

/-- The word of a sign and a rung. -/
def W (s : Bool) (r : Nat) : Nat := if s then 9223372036854775808 + r else r

theorem word_eq (s : Bool) (r : Nat) : double.word s r = W s r := by
  have : double.signWeight = 9223372036854775808 := by decide
  unfold Format.word W
  rw [this]

theorem word_cases (x : Nat) (h : x < 18446744073709551616) : ∃ s r, x = W s r ∧ r < 9223372036854775808 := by
  by_cases hx : x < 9223372036854775808
  · exact ⟨false, x, by simp [W], hx⟩
  · exact ⟨true, x - 9223372036854775808, by simp [W]; omega, by omega⟩

/-- The magnitude of a finite rung, in units of 2 ^ -1074. -/
def scl (r : Nat) : Nat := if r < 4503599627370496 then r else (4503599627370496 + r % 4503599627370496) * 2 ^ (r / 4503599627370496 - 1)

/-- The rung of a magnitude that is written exactly. -/
def rungOf (A : Nat) : Nat := (A.log2 - 52) * 4503599627370496 + A / 2 ^ (A.log2 - 52)

def Rep (A : Nat) : Prop := 2 ^ (A.log2 - 52) ∣ A

theorem read_W (s : Bool) (r : Nat) (h : r < 9223372036854775808) : double.read (W s r) =
    if r < 4503599627370496 then .number s r (-1074)
    else if r < 9218868437227405312 then .number s (4503599627370496 + r % 4503599627370496) (-1074 + (r / 4503599627370496 - 1 : Nat))
    else if r = 9218868437227405312 then .infinity s else .nan s (r - 9218868437227405312) := by
  have h1 : double.signWeight = 9223372036854775808 := by decide
  have h2 : double.binade = 4503599627370496 := by decide
  have h3 : double.infRung = 9218868437227405312 := by decide
  have h4 : double.leastPlace = -1074 := by decide
  have e1 : (W s r / 9223372036854775808 % 2 == 1) = s := by
    cases s
    · simp [W]; omega
    · simp [W]; omega
  have e2 : W s r % 9223372036854775808 = r := by
    cases s
    · simp [W]; omega
    · simp [W]; omega
  unfold Format.read
  rw [h1, h2, h3, h4, e1, e2]

theorem log2_mul_pow (m k : Nat) (h : m ≠ 0) : (m * 2 ^ k).log2 = m.log2 + k := by
  have hm : m * 2 ^ k ≠ 0 := Nat.mul_ne_zero h (Nat.pos_iff_ne_zero.1 (Nat.two_pow_pos k))
  rw [Nat.log2_eq_iff hm]
  obtain ⟨h1, h2⟩ := (Nat.log2_eq_iff h).1 rfl
  constructor
  · rw [Nat.pow_add]; exact Nat.mul_le_mul_right _ h1
  · rw [show m.log2 + k + 1 = (m.log2 + 1) + k by omega, Nat.pow_add]
    exact Nat.mul_lt_mul_of_pos_right h2 (Nat.two_pow_pos k)

theorem log2_of {m : Nat} (k : Nat) (h1 : 2 ^ k ≤ m) (h2 : m < 2 ^ (k + 1)) : m.log2 = k :=
  (Nat.log2_eq_iff (by have := Nat.two_pow_pos k; omega)).2 ⟨h1, h2⟩

theorem scl_nor (r : Nat) (h : 4503599627370496 ≤ r) : scl r = (4503599627370496 + r % 4503599627370496) * 2 ^ (r / 4503599627370496 - 1) := by
  unfold scl
  rw [if_neg (by omega)]

theorem log2_53 (M : Nat) (h1 : 4503599627370496 ≤ M) (h2 : M < 9007199254740992) : M.log2 = 52 :=
  log2_of 52 (by omega) (by omega)

theorem log2_lt52 (r : Nat) (h : r < 4503599627370496) : r.log2 - 52 = 0 := by
  by_cases h0 : r = 0
  · subst h0; decide
  · have := (Nat.log2_lt h0 (k := 52)).2 (by omega)
    omega

theorem rep_scl (r : Nat) : Rep (scl r) := by
  unfold Rep
  by_cases h : r < 4503599627370496
  · have : scl r = r := by simp [scl, h]
    rw [this, log2_lt52 r h]
    exact Nat.one_dvd r
  · have hm : r % 4503599627370496 < 4503599627370496 := Nat.mod_lt _ (by decide)
    rw [scl_nor r (by omega), log2_mul_pow _ _ (by omega), log2_53 _ (by omega) (by omega), show 52 + (r / 4503599627370496 - 1) - 52 = r / 4503599627370496 - 1 by omega]
    exact Nat.dvd_mul_left _ _

theorem rungOf_scl (r : Nat) : rungOf (scl r) = r := by
  unfold rungOf
  by_cases h : r < 4503599627370496
  · have : scl r = r := by simp [scl, h]
    rw [this, log2_lt52 r h]
    simp
  · have hm : r % 4503599627370496 < 4503599627370496 := Nat.mod_lt _ (by decide)
    rw [scl_nor r (by omega), log2_mul_pow _ _ (by omega), log2_53 _ (by omega) (by omega), show 52 + (r / 4503599627370496 - 1) - 52 = r / 4503599627370496 - 1 by omega]
    rw [Nat.mul_div_cancel _ (Nat.two_pow_pos _)]
    omega

theorem scl_rungOf (A : Nat) (h : Rep A) : scl (rungOf A) = A := by
  unfold Rep at h
  obtain ⟨c, hc⟩ := h
  by_cases h0 : A = 0
  · subst h0; decide
  obtain ⟨h1, h2⟩ := (Nat.log2_eq_iff h0).1 rfl
  by_cases hl : A.log2 < 52
  · have e : A.log2 - 52 = 0 := by omega
    have h3 : A < 2 ^ 52 := Nat.lt_of_lt_of_le h2 (Nat.pow_le_pow_right (by decide) (by omega))
    have : rungOf A = A := by unfold rungOf; rw [e]; simp
    rw [this]
    unfold scl
    rw [if_pos (by omega)]
  · generalize hk : A.log2 - 52 = k at *
    have hlog : A.log2 = 52 + k := by omega
    have hp := Nat.two_pow_pos k
    have hc1 : 4503599627370496 ≤ c := by
      rw [hlog, hc, Nat.pow_add, Nat.mul_comm] at h1
      have := Nat.le_of_mul_le_mul_left h1 hp
      omega
    have hc2 : c < 9007199254740992 := by
      rw [hlog, hc, show 52 + k + 1 = k + 53 by omega, Nat.pow_add] at h2
      have := Nat.lt_of_mul_lt_mul_left h2
      omega
    have hd : A / 2 ^ k = c := by rw [hc]; exact Nat.mul_div_cancel_left c hp
    have : rungOf A = k * 4503599627370496 + c := by unfold rungOf; rw [hk, hd]
    rw [this, scl_nor _ (by omega)]
    rw [show (k * 4503599627370496 + c) % 4503599627370496 = c - 4503599627370496 by omega, show (k * 4503599627370496 + c) / 4503599627370496 - 1 = k by omega]
    rw [show 4503599627370496 + (c - 4503599627370496) = c by omega, hc, Nat.mul_comm]

/-- What is written of a number that the format has, in units of 2 ^ -1074. -/
theorem nearest_exact (s : Bool) (mag : Nat) (place : Int) (hm : mag ≠ 0) (hp : -1074 ≤ place) (h : Rep (mag * 2 ^ (place + 1074).toNat)) :
    double.nearest s mag place = W s (min (rungOf (mag * 2 ^ (place + 1074).toNat)) 9218868437227405312) := by
  have h2 : double.binade = 4503599627370496 := by decide
  have h3 : double.infRung = 9218868437227405312 := by decide
  have h4 : double.leastPlace = -1074 := by decide
  have h5 : double.fractionBits = 52 := by decide
  unfold Format.nearest
  rw [if_neg hm]
  dsimp only
  rw [h2, h3, h4, h5, word_eq]
  refine congrArg (fun z => W s (min z 9218868437227405312)) ?_
  obtain ⟨k, hk⟩ : ∃ k : Nat, place + 1074 = k := Int.eq_ofNat_of_zero_le (by omega)
  have hk' : (place + 1074).toNat = k := by omega
  rw [hk'] at h ⊢
  unfold Rep at h
  rw [log2_mul_pow _ _ hm] at h
  unfold rungOf
  rw [log2_mul_pow _ _ hm]
  have e1 : (max (place + (mag.log2 : Int) - (52 : Nat)) (-1074) - -1074).toNat = mag.log2 + k - 52 := by omega
  rw [e1]
  refine congrArg (fun z => (mag.log2 + k - 52) * 4503599627370496 + z) ?_
  by_cases hd : k ≤ mag.log2 + k - 52
  · -- the place is at or below the last: digits are dropped, all of them nought
    have e2 : (place - max (place + (mag.log2 : Int) - (52 : Nat)) (-1074)).toNat = 0 := by omega
    have e3 : (max (place + (mag.log2 : Int) - (52 : Nat)) (-1074) - place).toNat = mag.log2 + k - 52 - k := by omega
    rw [e2, e3]
    generalize hj : mag.log2 + k - 52 - k = j at *
    have hjk : mag.log2 + k - 52 = j + k := by omega
    rw [hjk, Nat.pow_add] at h ⊢
    have hdv : 2 ^ j ∣ mag := Nat.dvd_of_mul_dvd_mul_right (Nat.two_pow_pos k) h
    rw [Nat.mul_div_mul_right _ _ (Nat.two_pow_pos k)]
    unfold Toward.cut
    dsimp only
    rw [show mag <<< 0 = mag from rfl]
    have hle : min j (mag.log2 + 2) = j := by omega
    rw [hle, Nat.one_shiftLeft, Nat.mod_eq_zero_of_dvd hdv]
    have := Nat.two_pow_pos j
    simp
  · -- the place is above the last: the number is shifted up
    have e2 : (place - max (place + (mag.log2 : Int) - (52 : Nat)) (-1074)).toNat = k - (mag.log2 + k - 52) := by omega
    have e3 : (max (place + (mag.log2 : Int) - (52 : Nat)) (-1074) - place).toNat = 0 := by omega
    rw [e2, e3]
    generalize hj : mag.log2 + k - 52 = j at *
    unfold Toward.cut
    dsimp only
    rw [show min 0 ((mag <<< (k - j)).log2 + 2) = 0 by omega]
    rw [Nat.one_shiftLeft, Nat.pow_zero, Nat.div_one, Nat.mod_one, Nat.shiftLeft_eq]
    have e4 : mag * 2 ^ k / 2 ^ j = mag * 2 ^ (k - j) := by
      rw [show k = (k - j) + j by omega, Nat.pow_add, ← Nat.mul_assoc, Nat.mul_div_cancel _ (Nat.two_pow_pos j)]
      rw [show k - j + j - j = k - j by omega]
    rw [e4]
    simp

theorem write_scaled (s : Bool) (m k : Nat) (h : Rep (m * 2 ^ k)) (hle : rungOf (m * 2 ^ k) ≤ 9218868437227405312) : double.write (.number s m (-1074 + k)) = W s (rungOf (m * 2 ^ k)) := by
  show double.nearest s m (-1074 + k) = _
  by_cases hm : m = 0
  · subst hm
    unfold Format.nearest
    rw [if_pos rfl, word_eq, Nat.zero_mul]
    rfl
  · have e : ((-1074 : Int) + k + 1074).toNat = k := by omega
    have := nearest_exact s m (-1074 + k) hm (by omega) (by rw [e]; exact h)
    rw [this, e, Nat.min_eq_left hle]

theorem read_fin (s : Bool) (r : Nat) (h : r < 9218868437227405312) : ∃ m k : Nat, double.read (W s r) = .number s m (-1074 + (k : Nat)) ∧ m * 2 ^ k = scl r := by
  rw [read_W s r (by omega)]
  by_cases h1 : r < 4503599627370496
  · exact ⟨r, 0, by rw [if_pos h1]; rfl, by simp [scl, h1]⟩
  · exact ⟨_, _, by rw [if_neg h1, if_pos h], (scl_nor r (by omega)).symm⟩

/-- A magnitude with its sign. -/
def sg (s : Bool) (A : Nat) : Int := if s then -(A : Int) else A

theorem signed_eq (s : Bool) (m up : Nat) : signed s m up = sg s (m * 2 ^ up) := by
  unfold signed sg
  rw [Nat.shiftLeft_eq]

theorem sg_mul (s : Bool) (A B : Nat) : sg s (A * B) = sg s A * (B : Int) := by
  cases s
  · simp [sg]
  · simp [sg, Int.neg_mul]

theorem pow_split (m k b : Nat) (h : b ≤ k) : m * 2 ^ k = m * 2 ^ (k - b) * 2 ^ b := by
  rw [Nat.mul_assoc, ← Nat.pow_add, show k - b + b = k by omega]

theorem sg_split (s : Bool) (m k b : Nat) (h : b ≤ k) : sg s (m * 2 ^ k) = sg s (m * 2 ^ (k - b)) * ((2 ^ b : Nat) : Int) := by
  rw [pow_split m k b h]
  exact sg_mul _ _ _

theorem mul_eq_zero_iff_pos (x : Int) (b : Nat) : x * ((2 ^ b : Nat) : Int) = 0 ↔ x = 0 := by
  have := Nat.two_pow_pos b
  rw [Int.mul_eq_zero]
  omega

theorem mul_neg_iff_pos (x : Int) (b : Nat) : x * ((2 ^ b : Nat) : Int) < 0 ↔ x < 0 := by
  have h := Nat.two_pow_pos b
  constructor
  · intro hx
    by_cases h0 : x < 0
    · exact h0
    · have : 0 ≤ x * ((2 ^ b : Nat) : Int) := Int.mul_nonneg (by omega) (by omega)
      omega
  · intro hx
    exact Int.mul_neg_of_neg_of_pos hx (by omega)

theorem sum_core (s t : Bool) (m k n l : Nat) : ∃ mag b : Nat, (Datum.number s m (-1074 + (k : Nat))).sum (.number t n (-1074 + (l : Nat))) =
      some (.number (if sg s (m * 2 ^ k) + sg t (n * 2 ^ l) = 0 then s && t else decide (sg s (m * 2 ^ k) + sg t (n * 2 ^ l) < 0)) mag (-1074 + (b : Nat))) ∧
    mag * 2 ^ b = (sg s (m * 2 ^ k) + sg t (n * 2 ^ l)).natAbs := by
  refine ⟨(sg s (m * 2 ^ (k - min k l)) + sg t (n * 2 ^ (l - min k l))).natAbs, min k l, ?_, ?_⟩
  · unfold Datum.sum
    dsimp only
    have e0 : min ((-1074 : Int) + (k : Nat)) (-1074 + (l : Nat)) = -1074 + ((min k l : Nat) : Int) := by omega
    rw [e0]
    have e1 : ((-1074 : Int) + (k : Nat) - (-1074 + ((min k l : Nat) : Int))).toNat = k - min k l := by omega
    have e2 : ((-1074 : Int) + (l : Nat) - (-1074 + ((min k l : Nat) : Int))).toNat = l - min k l := by omega
    rw [e1, e2, signed_eq, signed_eq]
    have e3 : sg s (m * 2 ^ k) + sg t (n * 2 ^ l) = (sg s (m * 2 ^ (k - min k l)) + sg t (n * 2 ^ (l - min k l))) * ((2 ^ min k l : Nat) : Int) := by
      rw [sg_split s m k (min k l) (by omega), sg_split t n l (min k l) (by omega), Int.add_mul]
    rw [e3]
    simp only [mul_eq_zero_iff_pos, mul_neg_iff_pos]
  · rw [sg_split s m k (min k l) (by omega), sg_split t n l (min k l) (by omega), ← Int.add_mul, Int.natAbs_mul, Int.natAbs_natCast]

theorem compare_mul (x y : Int) (b : Nat) : compare (x * ((2 ^ b : Nat) : Int)) (y * ((2 ^ b : Nat) : Int)) = compare x y := by
  have h := Nat.two_pow_pos b
  have hb : (0 : Int) < ((2 ^ b : Nat) : Int) := by omega
  have h1 : x * ((2 ^ b : Nat) : Int) < y * ((2 ^ b : Nat) : Int) ↔ x < y := Int.mul_lt_mul_right hb
  have h2 : x * ((2 ^ b : Nat) : Int) = y * ((2 ^ b : Nat) : Int) ↔ x = y := by
    constructor
    · intro e; exact Int.eq_of_mul_eq_mul_right (by omega) e
    · intro e; rw [e]
  simp only [compare, compareOfLessAndEq, h1, h2]

theorem order_core (s t : Bool) (m k n l : Nat) : (Datum.number s m (-1074 + (k : Nat))).order (.number t n (-1074 + (l : Nat))) = some (compare (sg s (m * 2 ^ k)) (sg t (n * 2 ^ l))) := by
  unfold Datum.order
  dsimp only
  have e0 : min ((-1074 : Int) + (k : Nat)) (-1074 + (l : Nat)) = -1074 + ((min k l : Nat) : Int) := by omega
  rw [e0]
  have e1 : ((-1074 : Int) + (k : Nat) - (-1074 + ((min k l : Nat) : Int))).toNat = k - min k l := by omega
  have e2 : ((-1074 : Int) + (l : Nat) - (-1074 + ((min k l : Nat) : Int))).toNat = l - min k l := by omega
  rw [e1, e2, signed_eq, signed_eq]
  rw [sg_split s m k (min k l) (by omega), sg_split t n l (min k l) (by omega), compare_mul]

theorem order_fin (s t : Bool) (r q : Nat) (hr : r < 9218868437227405312) (hq : q < 9218868437227405312) : double.order (W s r) (W t q) = some (compare (sg s (scl r)) (sg t (scl q))) := by
  obtain ⟨m, k, h1, h2⟩ := read_fin s r hr
  obtain ⟨n, l, h3, h4⟩ := read_fin t q hq
  unfold Format.order
  rw [h1, h3, order_core, h2, h4]

theorem add_fin (s t : Bool) (r q : Nat) (hr : r < 9218868437227405312) (hq : q < 9218868437227405312) (Z : Int) (hZ : Z = sg s (scl r) + sg t (scl q)) (hRep : Rep Z.natAbs) (hle : rungOf Z.natAbs ≤ 9218868437227405312) :
    double.add (W s r) (W t q) = some (W (if Z = 0 then s && t else decide (Z < 0)) (rungOf Z.natAbs)) := by
  obtain ⟨m, k, h1, h2⟩ := read_fin s r hr
  obtain ⟨n, l, h3, h4⟩ := read_fin t q hq
  obtain ⟨mag, b, h5, h6⟩ := sum_core s t m k n l
  unfold Format.add
  rw [h1, h3, h5, h2, h4, ← hZ]
  rw [h2, h4, ← hZ] at h6
  rw [← h6] at hRep hle
  rw [Option.map_some, write_scaled _ _ _ hRep hle, h6]

theorem sub_fin (s t : Bool) (r q : Nat) (hr : r < 9218868437227405312) (hq : q < 9218868437227405312) (Z : Int) (hZ : Z = sg s (scl r) + sg (!t) (scl q)) (hRep : Rep Z.natAbs) (hle : rungOf Z.natAbs ≤ 9218868437227405312) :
    double.sub (W s r) (W t q) = some (W (if Z = 0 then s && !t else decide (Z < 0)) (rungOf Z.natAbs)) := by
  obtain ⟨m, k, h1, h2⟩ := read_fin s r hr
  obtain ⟨n, l, h3, h4⟩ := read_fin t q hq
  obtain ⟨mag, b, h5, h6⟩ := sum_core s (!t) m k n l
  unfold Format.sub
  rw [h1, h3]
  show Option.map _ ((Datum.number s m (-1074 + (k : Nat))).sum (.number (!t) n (-1074 + (l : Nat)))) = _
  rw [h5, h2, h4, ← hZ]
  rw [h2, h4, ← hZ] at h6
  rw [← h6] at hRep hle
  rw [Option.map_some, write_scaled _ _ _ hRep hle, h6]

/-! ### units: 2 ^ S of them are one -/
def S : Nat := 1074
theorem S_eq : S = 1074 := rfl

theorem rep_iff (A : Nat) : Rep A ↔ ∃ j, 2 ^ j ∣ A ∧ A < 2 ^ (j + 53) := by
  constructor
  · intro h
    refine ⟨A.log2 - 52, h, ?_⟩
    by_cases h0 : A = 0
    · subst h0; exact Nat.two_pow_pos _
    · exact Nat.lt_of_lt_of_le Nat.lt_log2_self (Nat.pow_le_pow_right (by decide) (by omega))
  · intro ⟨j, h1, h2⟩
    unfold Rep
    by_cases h0 : A = 0
    · subst h0; exact Nat.dvd_zero _
    · have := (Nat.log2_lt h0).2 h2
      exact Nat.dvd_trans (Nat.pow_dvd_pow 2 (by omega)) h1

theorem div_mul_of_dvd {A B : Nat} (h : B ∣ A) : A / B * B = A := Nat.div_mul_cancel h

theorem rep_trunc {A : Nat} (h : Rep A) : Rep (A / 2 ^ S * 2 ^ S) := by
  obtain ⟨j, h1, h2⟩ := (rep_iff A).1 h
  by_cases hj : j ≤ S
  · exact (rep_iff _).2 ⟨j, Nat.dvd_trans (Nat.pow_dvd_pow 2 hj) (Nat.dvd_mul_left _ _), Nat.lt_of_le_of_lt (Nat.div_mul_le_self _ _) h2⟩
  · rw [div_mul_of_dvd (Nat.dvd_trans (Nat.pow_dvd_pow 2 (by omega)) h1)]
    exact h

theorem rep_mod {A : Nat} (h : Rep A) : Rep (A % 2 ^ S) := by
  obtain ⟨j, h1, h2⟩ := (rep_iff A).1 h
  by_cases hj : j ≤ S
  · exact (rep_iff _).2 ⟨j, (Nat.dvd_mod_iff (Nat.pow_dvd_pow 2 hj)).2 h1, Nat.lt_of_le_of_lt (Nat.mod_le _ _) h2⟩
  · rw [Nat.mod_eq_zero_of_dvd (Nat.dvd_trans (Nat.pow_dvd_pow 2 (by omega)) h1)]
    exact (rep_iff _).2 ⟨0, Nat.dvd_zero _, Nat.two_pow_pos _⟩

theorem pow_pred (n : Nat) (h : 1 ≤ n) : 2 ^ n = 2 * 2 ^ (n - 1) := by
  have e : 2 ^ (n - 1 + 1) = 2 ^ (n - 1) * 2 := Nat.pow_succ 2 (n - 1)
  rw [show n - 1 + 1 = n by omega] at e
  omega

theorem two_pow_S : 2 ^ S = 2 * 2 ^ (S - 1) := pow_pred S (by have := S_eq; omega)

theorem rep_up {A : Nat} (h : Rep A) (hm : 2 ^ (S - 1) ≤ A % 2 ^ S) : Rep ((A / 2 ^ S + 1) * 2 ^ S) := by
  obtain ⟨j, h1, h2⟩ := (rep_iff A).1 h
  have hp := Nat.two_pow_pos (S - 1)
  have hj : j < S := by
    by_cases hj : j < S
    · exact hj
    · rw [Nat.mod_eq_zero_of_dvd (Nat.dvd_trans (Nat.pow_dvd_pow 2 (by omega)) h1)] at hm
      omega
  have hs : S ≤ j + 53 := by
    by_cases hs : S ≤ j + 53
    · exact hs
    · have : 2 ^ (j + 53) ≤ 2 ^ (S - 1) := Nat.pow_le_pow_right (by decide) (by omega)
      have := Nat.mod_le A (2 ^ S)
      omega
  refine (rep_iff _).2 ⟨j + 1, Nat.dvd_trans (Nat.pow_dvd_pow 2 hj) (Nat.dvd_mul_left _ _), ?_⟩
  have e1 : 2 ^ S ≤ 2 ^ (j + 53) := Nat.pow_le_pow_right (by decide) hs
  have e2 : 2 ^ (j + 1 + 53) = 2 * 2 ^ (j + 53) := by rw [show j + 1 + 53 = (j + 53) + 1 by omega, Nat.pow_succ, Nat.mul_comm]
  have e3 := Nat.div_mul_le_self A (2 ^ S)
  rw [Nat.add_mul, Nat.one_mul]
  omega

theorem rung_lt (A : Nat) (h : A < 2 ^ (S + 1024)) : rungOf A < 9218868437227405312 := by
  unfold rungOf
  by_cases h0 : A = 0
  · subst h0; decide
  obtain ⟨h1, h2⟩ := (Nat.log2_eq_iff h0).1 rfl
  have hl : A.log2 < S + 1024 := (Nat.log2_lt h0).2 h
  have hd : A / 2 ^ (A.log2 - 52) < 9007199254740992 := by
    rw [Nat.div_lt_iff_lt_mul (Nat.two_pow_pos _)]
    refine Nat.lt_of_lt_of_le h2 ?_
    rw [show (9007199254740992 : Nat) = 2 ^ 53 from rfl, ← Nat.pow_add]
    exact Nat.pow_le_pow_right (by decide) (by omega)
  have := S_eq
  omega

theorem scl_lt (r : Nat) (h : r < 9218868437227405312) : scl r < 2 ^ (S + 1024) := by
  unfold scl
  have hS := S_eq
  split
  · rename_i h1
    refine Nat.lt_of_lt_of_le (show r < 2 ^ 52 by omega) (Nat.pow_le_pow_right (by decide) (by omega))
  · rename_i h1
    have hm : 4503599627370496 + r % 4503599627370496 < 2 ^ 53 := by
      have : r % 4503599627370496 < 4503599627370496 := Nat.mod_lt _ (by decide)
      omega
    refine Nat.lt_of_lt_of_le (Nat.mul_lt_mul_of_pos_right hm (Nat.two_pow_pos _)) ?_
    rw [← Nat.pow_add]
    exact Nat.pow_le_pow_right (by decide) (by omega)

/-! ### cutting to a whole number -/
theorem cut_zero (s : Bool) (m d : Nat) : Toward.zero.cut s m d = m / 2 ^ d := by
  unfold Toward.cut
  dsimp only
  rw [Nat.one_shiftLeft]
  simp only [Bool.toNat_false, Nat.add_zero]
  by_cases h : d ≤ m.log2 + 2
  · rw [Nat.min_eq_left h]
  · rw [Nat.min_eq_right (by omega)]
    have hl : m < 2 ^ (m.log2 + 1) := Nat.lt_log2_self
    rw [Nat.div_eq_of_lt (Nat.lt_of_lt_of_le hl (Nat.pow_le_pow_right (by decide) (by omega))), Nat.div_eq_of_lt (Nat.lt_of_lt_of_le hl (Nat.pow_le_pow_right (by decide) (by omega)))]

theorem integral_core (s : Bool) (m k : Nat) : (Datum.number s m (-1074 + (k : Nat))).integral .zero = .number s (m * 2 ^ k / 2 ^ S) 0 := by
  have hS := S_eq
  unfold Datum.integral
  dsimp only
  rw [cut_zero, Nat.shiftLeft_eq]
  by_cases h : S ≤ k
  · rw [show ((-1074 : Int) + (k : Nat)).toNat = k - S by omega, show (-((-1074 : Int) + (k : Nat))).toNat = 0 by omega, Nat.pow_zero, Nat.div_one]
    rw [pow_split m k S h, Nat.mul_div_cancel _ (Nat.two_pow_pos S)]
  · rw [show ((-1074 : Int) + (k : Nat)).toNat = 0 by omega, show (-((-1074 : Int) + (k : Nat))).toNat = S - k by omega, Nat.pow_zero, Nat.mul_one]
    rw [show 2 ^ S = 2 ^ (S - k) * 2 ^ k by rw [← Nat.pow_add, show S - k + k = S by omega], Nat.mul_div_mul_right _ _ (Nat.two_pow_pos k)]

theorem integral_fin (s : Bool) (r : Nat) (h : r < 9218868437227405312) : (double.read (W s r)).integral .zero = .number s (scl r / 2 ^ S) 0 := by
  obtain ⟨m, k, h1, h2⟩ := read_fin s r h
  rw [h1, integral_core, h2]

/-- A whole number written. -/
theorem write_whole (s : Bool) (n : Nat) (h : Rep (n * 2 ^ S)) (hle : n * 2 ^ S < 2 ^ (S + 1024)) : double.write (.number s n 0) = W s (rungOf (n * 2 ^ S)) := by
  have := write_scaled s n S h (by have := rung_lt _ hle; omega)
  rw [S_eq] at this ⊢
  exact this

theorem trunc_fin (s : Bool) (r : Nat) (h : r < 9218868437227405312) : double.write ((double.read (W s r)).integral .zero) = W s (rungOf (scl r / 2 ^ S * 2 ^ S)) := by
  rw [integral_fin s r h]
  exact write_whole s _ (rep_trunc (rep_scl r)) (Nat.lt_of_le_of_lt (Nat.div_mul_le_self _ _) (scl_lt r h))

/-! ### rounding half away from zero -/
/-- The nearest whole number, half away from zero. -/
def near (A : Nat) : Nat := (A + 2 ^ (S - 1)) / 2 ^ S

theorem near_down {A : Nat} (h : A % 2 ^ S < 2 ^ (S - 1)) : near A = A / 2 ^ S := by
  unfold near
  have e := two_pow_S
  have hp := Nat.two_pow_pos (S - 1)
  rw [Nat.div_eq_iff (by omega)]
  have := Nat.div_add_mod A (2 ^ S)
  rw [Nat.mul_comm] at this
  generalize A / 2 ^ S * 2 ^ S = T at *
  omega

theorem near_up {A : Nat} (h : 2 ^ (S - 1) ≤ A % 2 ^ S) : near A = A / 2 ^ S + 1 := by
  unfold near
  have e := two_pow_S
  have hp := Nat.two_pow_pos (S - 1)
  have hm := Nat.mod_lt A (show 2 ^ S > 0 by omega)
  rw [Nat.div_eq_iff (by omega)]
  have := Nat.div_add_mod A (2 ^ S)
  rw [Nat.mul_comm] at this
  rw [Nat.add_mul, Nat.one_mul]
  generalize A / 2 ^ S * 2 ^ S = T at *
  omega

theorem rep_near {A : Nat} (h : Rep A) : Rep (near A * 2 ^ S) := by
  by_cases hm : A % 2 ^ S < 2 ^ (S - 1)
  · rw [near_down hm]; exact rep_trunc h
  · rw [near_up (by omega)]; exact rep_up h (by omega)

/-- What the rounded number's rung is. -/
def rnd (r : Nat) : Nat := rungOf (near (scl r) * 2 ^ S)

/-! ### math.Round's own bits -/
def bitsRnd (r : Nat) : Nat :=
  if r < 4602678819172646912 then 0
  else if r < 4607182418800017408 then 4607182418800017408
  else if r < 4841369599423283200 then (r + 2 ^ (1074 - r / 4503599627370496)) / 2 ^ (1075 - r / 4503599627370496) * 2 ^ (1075 - r / 4503599627370496)
  else r

theorem scl_mono_lt (r : Nat) (e : Nat) (h : r < (e + 1) * 4503599627370496) : scl r < 2 ^ (52 + e) := by
  unfold scl
  split
  · rename_i h1
    exact Nat.lt_of_lt_of_le (show r < 2 ^ 52 by omega) (Nat.pow_le_pow_right (by decide) (by omega))
  · rename_i h1
    have hm : 4503599627370496 + r % 4503599627370496 < 2 ^ 53 := by
      have : r % 4503599627370496 < 4503599627370496 := Nat.mod_lt _ (by decide)
      omega
    refine Nat.lt_of_lt_of_le (Nat.mul_lt_mul_of_pos_right hm (Nat.two_pow_pos _)) ?_
    rw [← Nat.pow_add]
    exact Nat.pow_le_pow_right (by decide) (by omega)

theorem rungOf_pow (k : Nat) : rungOf (2 ^ (52 + k)) = (k + 1) * 4503599627370496 := by
  have hl : (2 ^ (52 + k)).log2 = 52 + k := Nat.log2_two_pow
  unfold rungOf
  rw [hl, show 52 + k - 52 = k by omega, Nat.pow_add, Nat.mul_div_cancel _ (Nat.two_pow_pos k)]
  omega

theorem rnd_eq (r : Nat) (h : r < 9218868437227405312) : rnd r = bitsRnd r := by
  have hS := S_eq
  unfold rnd bitsRnd
  by_cases h1 : r < 4602678819172646912
  · rw [if_pos h1]
    have hA : scl r < 2 ^ (S - 1) := by
      have h := scl_mono_lt r 1021 (by omega)
      rw [show 52 + 1021 = S - 1 by omega] at h
      exact h
    have e := two_pow_S
    have hm : scl r % 2 ^ S = scl r := Nat.mod_eq_of_lt (by omega)
    rw [near_down (by omega), Nat.div_eq_of_lt (by omega), Nat.zero_mul]
    rfl
  rw [if_neg h1]
  by_cases h2 : r < 4607182418800017408
  · rw [if_pos h2]
    have e := two_pow_S
    have hp := Nat.two_pow_pos (S - 1)
    have hA2 : scl r < 2 ^ S := by
      have h := scl_mono_lt r 1022 (by omega)
      rw [show 52 + 1022 = S by omega] at h
      exact h
    have hA1 : 2 ^ (S - 1) ≤ scl r := by
      rw [scl_nor r (by omega), show S - 1 = 52 + (r / 4503599627370496 - 1) by omega, Nat.pow_add]
      exact Nat.mul_le_mul_right _ (by omega)
    have hm : scl r % 2 ^ S = scl r := Nat.mod_eq_of_lt hA2
    rw [near_up (by omega), Nat.div_eq_of_lt hA2, Nat.zero_add, Nat.one_mul]
    have h := rungOf_pow 1022
    rw [show 52 + 1022 = S by omega] at h
    exact h
  rw [if_neg h2]
  by_cases h3 : r < 4841369599423283200
  · rw [if_pos h3]
    generalize hE : r / 4503599627370496 = E
    have hE1 : 1023 ≤ E := by omega
    have hE2 : E ≤ 1074 := by omega
    generalize hM : 4503599627370496 + r % 4503599627370496 = M
    have hM1 : 4503599627370496 ≤ M := by omega
    have hM2 : M < 9007199254740992 := by omega
    have hr : r = (E - 1) * 4503599627370496 + M := by omega
    have hA : scl r = M * 2 ^ (E - 1) := by rw [scl_nor r (by omega), hM, hE]
    -- D digits behind the point
    obtain ⟨D, hD⟩ : ∃ D, 1075 - E = D := ⟨_, rfl⟩
    rw [show 1074 - E = D - 1 by omega, hD]
    have hD1 : 1 ≤ D := by omega
    have hD2 : D ≤ 52 := by omega
    have hpow : (2 : Nat) ^ S = 2 ^ D * 2 ^ (E - 1) := by rw [← Nat.pow_add, show D + (E - 1) = S by omega]
    have hpow1 : (2 : Nat) ^ (S - 1) = 2 ^ (D - 1) * 2 ^ (E - 1) := by rw [← Nat.pow_add, show D - 1 + (E - 1) = S - 1 by omega]
    have hn : near (scl r) = (M + 2 ^ (D - 1)) / 2 ^ D := by
      unfold near
      rw [hA, hpow, hpow1, ← Nat.add_mul, Nat.mul_div_mul_right _ _ (Nat.two_pow_pos _)]
    rw [hn]
    have h52 : (4503599627370496 : Nat) = 2 ^ (52 - D) * 2 ^ D := by rw [← Nat.pow_add, show 52 - D + D = 52 by omega]
    have hK : (r + 2 ^ (D - 1)) / 2 ^ D * 2 ^ D = (E - 1) * 4503599627370496 + (M + 2 ^ (D - 1)) / 2 ^ D * 2 ^ D := by
      rw [hr, Nat.add_assoc]
      have e1 : (E - 1) * 4503599627370496 = 2 ^ D * ((E - 1) * 2 ^ (52 - D)) := by rw [h52, ← Nat.mul_assoc, Nat.mul_comm]
      rw [e1, Nat.mul_add_div (Nat.two_pow_pos D), Nat.add_mul, Nat.mul_comm (2 ^ D) ((E - 1) * 2 ^ (52 - D))]
    rw [hK, hpow, ← Nat.mul_assoc]
    -- K: the rounded significand, between 2^52 and 2^53
    have hK1 : 4503599627370496 ≤ (M + 2 ^ (D - 1)) / 2 ^ D * 2 ^ D := by
      have a : 2 ^ (52 - D) ≤ (M + 2 ^ (D - 1)) / 2 ^ D := by
        rw [Nat.le_div_iff_mul_le (Nat.two_pow_pos D), ← h52]
        have := Nat.two_pow_pos (D - 1)
        exact Nat.le_trans hM1 (Nat.le_add_right _ _)
      calc 4503599627370496 = 2 ^ (52 - D) * 2 ^ D := h52
        _ ≤ _ := Nat.mul_le_mul_right _ a
    have hK2 : (M + 2 ^ (D - 1)) / 2 ^ D * 2 ^ D ≤ 9007199254740992 := by
      have h53 : (9007199254740992 : Nat) = 2 ^ (53 - D) * 2 ^ D := by rw [← Nat.pow_add, show 53 - D + D = 53 by omega]
      have a : (M + 2 ^ (D - 1)) / 2 ^ D ≤ 2 ^ (53 - D) := by
        have hDD : (2 : Nat) ^ D = 2 * 2 ^ (D - 1) := by
          have : 2 ^ (D - 1 + 1) = 2 ^ (D - 1) * 2 := Nat.pow_succ 2 (D - 1)
          rw [show D - 1 + 1 = D by omega] at this
          omega
        have hpD := Nat.two_pow_pos (D - 1)
        have : (M + 2 ^ (D - 1)) / 2 ^ D < 2 ^ (53 - D) + 1 := by
          rw [Nat.div_lt_iff_lt_mul (Nat.two_pow_pos D), Nat.add_mul, ← h53]
          omega
        omega
      calc _ ≤ 2 ^ (53 - D) * 2 ^ D := Nat.mul_le_mul_right _ a
        _ = 9007199254740992 := h53.symm
    generalize (M + 2 ^ (D - 1)) / 2 ^ D * 2 ^ D = K at hK1 hK2 ⊢
    by_cases hKe : K = 9007199254740992
    · rw [hKe, show (9007199254740992 : Nat) * 2 ^ (E - 1) = 2 ^ (52 + E) by rw [show (9007199254740992 : Nat) = 2 ^ 53 from rfl, ← Nat.pow_add, show 53 + (E - 1) = 52 + E by omega]]
      rw [rungOf_pow]
      omega
    · unfold rungOf
      rw [log2_mul_pow _ _ (by omega), log2_53 K (by omega) (by omega), show 52 + (E - 1) - 52 = E - 1 by omega, Nat.mul_div_cancel _ (Nat.two_pow_pos _)]
  · rw [if_neg h3]
    have hdv : 2 ^ S ∣ scl r := by
      rw [scl_nor r (by omega)]
      exact Nat.dvd_trans (Nat.pow_dvd_pow 2 (by omega)) (Nat.dvd_mul_left _ _)
    rw [near_down (by rw [Nat.mod_eq_zero_of_dvd hdv]; exact Nat.two_pow_pos _), Nat.div_mul_cancel hdv, rungOf_scl]

theorem up_lt {A : Nat} (h : Rep A) (hm : 2 ^ (S - 1) ≤ A % 2 ^ S) : (A / 2 ^ S + 1) * 2 ^ S < 2 ^ (S + 54) := by
  obtain ⟨j, h1, h2⟩ := (rep_iff A).1 h
  have hp := Nat.two_pow_pos (S - 1)
  have hj : j < S := by
    by_cases hj : j < S
    · exact hj
    · rw [Nat.mod_eq_zero_of_dvd (Nat.dvd_trans (Nat.pow_dvd_pow 2 (by omega)) h1)] at hm
      omega
  have e1 : 2 ^ (j + 53) ≤ 2 ^ (S + 53) := Nat.pow_le_pow_right (by decide) (by omega)
  have e2 : 2 ^ S ≤ 2 ^ (S + 53) := Nat.pow_le_pow_right (by decide) (by omega)
  have e3 := Nat.div_mul_le_self A (2 ^ S)
  have e4 := pow_pred (S + 54) (by omega)
  rw [show S + 54 - 1 = S + 53 by omega] at e4
  rw [Nat.add_mul, Nat.one_mul]
  omega

theorem pow54 : 2 ^ (S + 54) ≤ 2 ^ (S + 1024) := Nat.pow_le_pow_right (by decide) (by omega)

theorem scl_pow (k : Nat) : scl ((k + 1) * 4503599627370496) = 2 ^ (52 + k) := by
  rw [scl_nor _ (by omega), show (k + 1) * 4503599627370496 % 4503599627370496 = 0 by omega, show (k + 1) * 4503599627370496 / 4503599627370496 - 1 = k by omega, Nat.pow_add]

theorem scl_half : scl 4602678819172646912 = 2 ^ (S - 1) := by
  have h := scl_pow 1021
  rw [show 52 + 1021 = S - 1 by rw [S_eq]] at h
  exact h
theorem scl_one : scl 4607182418800017408 = 2 ^ S := by
  have h := scl_pow 1022
  rw [show 52 + 1022 = S by rw [S_eq]] at h
  exact h
theorem scl_limit : scl 4845873199050653696 = 9007199254740992 * 2 ^ S := by
  have h := scl_pow 1075
  rw [show 52 + 1075 = 53 + S by rw [S_eq], Nat.pow_add, show (2 : Nat) ^ 53 = 9007199254740992 from rfl] at h
  exact h

end Go.Proofs.YbulkdogaDoor.Fl
